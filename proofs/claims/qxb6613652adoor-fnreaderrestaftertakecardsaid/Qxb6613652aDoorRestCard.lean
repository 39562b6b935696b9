/- FnReaderRestAfterTake: the row, proved; the tied card. -/
import Derived.Test.Qxb6613652aDoorRest
import Derived.Test.Qxb6613652aDoorLaid
import Derived.Test.Qxb6613652aDoorTie
import Derived.Test.Qxb6613652aDoorCards
import Derived.SevenTiedAt
namespace Go.Proofs.Qxb6613652aDoor
open Go.ChangeShapes Go.WideShapes Go.ChangeAt Go.RowKit

theorem rst_any (a : Option Addr) (len cap n : Nat) (zs : List Int) (w : World) (h : BytesAt w a len cap zs) (t : TypeId) (p : Value) (he : w.cell? ⟨0, 0, none⟩ = some (.iface t p)) (h0 : 0 < w.heap.size) :
    Calls Tryd.prog 5 #[.slice a len cap, .int .u64 n] w fun e w' => e = .returned (.bool true) ∧ Below w.heap.size w w' := by
  rcases h with ⟨rfl, rfl, rfl⟩ | ⟨x, rfl, hl, hm, hc⟩
  · by_cases hn : 0 < n
    · exact rst_nil_gt n w t p he h0 hn
    · obtain rfl : n = 0 := by omega
      exact rst_nil_zero w
  · by_cases hb : len ≤ 1048576
    · by_cases hgt : len < n
      · exact rst_gt x len cap n zs w hb hc hgt t p he h0
      · by_cases hlt : n < len
        · exact rst_lt x len cap n zs w hb hc hlt t p he h0
        · obtain rfl : n = len := by omega
          exact rst_eq x n cap zs w hb hc t p he h0
    · exact rst_big (some x) len cap n w (by omega) hm

set_option maxRecDepth 100000 in
theorem rst_lifted (os : Os) (started : os.Started) (H : Type) (enc : TypeId × Value → H) :
    ReturnsInHanded {} Tryd.checked os 5 .any (fun w args => (Rows.fnReaderRestAfterTakeSpec.pre enc Tryd.prog Tryd.f5 [] false w args ∧ laidMetH Tryd.prog laid1 w) ∧ sizedMet enc Tryd.prog Tryd.f5 (OpenSpec.ofChange Rows.fnReaderRestAfterTakeSpec) false w args)
      (Rows.fnReaderRestAfterTakeSpec.post enc Tryd.prog Tryd.f5 false true false false) := by
  refine returnsInHanded_of_change_and (C := Tryd.checked) (X := fun w _ => laidMetH Tryd.prog laid1 w) (fun _ _ _ hh h => h.of_heap hh) own started (by kernel_rfl) Tryd.func5
    (ChangeSpec.witness_shaped (enc := enc) (C := Tryd.checked) (os := os) (X := fun w _ => laidMetH Tryd.prog laid1 w) false (World.doorLaid Tryd.prog 100 os) #[.slice none 0 0, .int .u64 0] 8 rfl (World.shaped_of_RefB (by kernel_rfl) (by kernel_rfl)) (by kernel_rfl) (by kernel_rfl) (by kernel_rfl) (door_met os _)) ?_
  intro W base args ds gs before hval0 hW _ _ hL _
  have hval : ∀ (j : Nat) t v, Tryd.f5.params[j]? = some t → args[j]? = some v → Value.okWide Tryd.prog W .any base t v := hval0
  have hW' := hW
  obtain ⟨p, q, hA0, hV0, rfl, hfz, hnd⟩ := hW
  have hA : DataW.TrodAll enc Tryd.prog W 0 (fun _ => true) true Tryd.f5.params.toList args.toList ds p := hA0
  have hV : DataW.TrodVars enc Tryd.prog W (fun _ => true) [vname] gs q := hV0
  rw [Tryd.params5] at hA hval
  obtain ⟨v0, v1, d0, d1, p0, p1, rfl, rfl, rfl, h0, h1⟩ := trodAll_two hA
  obtain ⟨a0, len0, cap0, rfl⟩ := okWide_slice Tryd.underlying22 (hval 0 22 v0 rfl rfl)
  have k0 := h0
  have lt0 : ∀ x ∈ p0, x.block < W.heap.size := by obtain ⟨m, hm⟩ := k0; exact DataW.trod_lt m _ _ _ hm
  obtain ⟨zs, hz⟩ := open_bytes h0
  obtain ⟨n, rfl, rfl, rfl, wn⟩ := open_int Tryd.underlying23 (hval 1 23 v1 rfl rfl) h1
  obtain ⟨m, rfl, -⟩ := nat_of_wf wn
  obtain ⟨e, hv, hc, hs⟩ := of_laid hL
  obtain ⟨rfl, rfl⟩ := hV.unique (vars_read1 enc gE tE Tryd.underlying29 hv trivial _)
  clear hA0 hV0 hval0
  refine (rst_any a0 len0 cap0 m zs W hz _ _ hc hs).mono fun e W' ⟨he, bel⟩ => ?_
  subst he
  exact ⟨_, rfl, _, _, _, [], _, [.cell 0 0], hW', trodAll_mk1 (shut_bool Tryd.underlying4 _), trodAll_mk2 (Below.trod laidOut (by kernel_rfl) (of_decide_eq_true (by kernel_rfl)) k0 bel lt0) (shut_int Tryd.underlying23 wn),
    vars_read1 enc gE tE Tryd.underlying29 (var?_below bel gE hs hv) trivial _, bel.frame _, fun h => by cases h⟩

theorem rst_holds : Rows.FnReaderRestAfterTakeSaid :=
  OpenClaim.holds_of_wide 5 Tryd.f5 rfl rfl rfl rfl rfl rfl rfl ⟨rfl, rfl, rfl, rfl, rfl⟩ rfl rfl rfl rfl rfl (by kernel_rfl) Tryd.func5 (by kernel_rfl)
    (of_decide_eq_true (by kernel_rfl)) (by unfold Func.isWrapper; first | (rw [if_pos (by decide +kernel)]; kernel_rfl) | (rw [if_neg (by decide +kernel)]; exact ⟨rfl, rfl⟩))
    (fun os started H enc _ => rst_lifted os started H enc)

theorem rst_card : Rows.FnReaderRestAfterTakeCardSaid :=
  Claim7.holds_tied_plain_at .later [] [.sentinel] true Rows.fnReaderRestAfterTakeCard.stood.harness false
    rst_holds (fun _ h => by cases h) (by kernel_rfl) (fun _ h => by cases h) fnReaderRestAfterTake_row_tie rfl ⟨rfl, rfl⟩ (by kernel_rfl) rfl
    (fun f fn hf hfn => by
      obtain rfl : f = 5 := Option.some.inj ((show Tryd.prog.funcNamed Rows.fnReaderRestAfterTakeRow.func = some 5 by kernel_rfl).symm.trans hf) |>.symm
      obtain rfl : fn = Tryd.f5 := (Option.some.inj (Tryd.func5.symm.trans hfn)).symm
      exact ⟨by kernel_rfl, fun j t ht => by
        rw [Tryd.params5] at ht
        have hm : t ∈ [22, 23] := by simpa using Array.mem_of_getElem? ht
        have hall : ([22, 23].all fun u => !Tryd.prog.wantsStandIn u) = true := by kernel_rfl
        exact (show Tryd.prog.wantsStandIn t = false by simpa using List.all_eq_true.1 hall t hm)⟩)
    (by kernel_rfl)
end Go.Proofs.Qxb6613652aDoor
