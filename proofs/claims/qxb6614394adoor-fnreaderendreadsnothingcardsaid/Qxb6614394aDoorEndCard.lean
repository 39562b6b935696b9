/- FnReaderEndReadsNothing: the row, proved; the tied card. -/
import Derived.Test.Qxb6614394aDoorEnd
import Derived.Test.Qxb6614394aDoorLaid
import Derived.Test.Qxb6614394aDoorTie
import Derived.Test.Qxb6614394aDoorCards
import Derived.SevenTiedAt
namespace Go.Proofs.Qxb6614394aDoor
open Go.ChangeShapes Go.WideShapes Go.ChangeAt Go.RowKit

theorem end_any (a : Option Addr) (len cap : Nat) (k : Int) (zs : List Int) (w : World) (h : BytesAt w a len cap zs) (t : TypeId) (p : Value) (he : w.cell? ⟨0, 0, none⟩ = some (.iface t p)) (h0 : 0 < w.heap.size) :
    Calls Tryd.prog 4 #[.slice a len cap, .int .i64 k] w fun e w' => e = .returned (.bool true) ∧ Below w.heap.size w w' := by
  rcases h with ⟨rfl, rfl, rfl⟩ | ⟨x, rfl, hl, hm, hc⟩
  · by_cases hk : k = 0
    · subst hk; exact end_nil_zero w
    · exact end_nil_out k w (by omega) t p he h0
  · by_cases hb : len ≤ 1048576
    · by_cases hk : k < 0 ∨ (len : Int) < k
      · exact end_out x len cap k zs w hb hc hk t p he h0
      · obtain ⟨m, rfl⟩ : ∃ m : Nat, k = (m : Int) := ⟨k.toNat, by omega⟩
        by_cases hz : 0 < len
        · obtain ⟨b, off, rfl, hlt, hp⟩ := plain_of hc hz
          by_cases hml : m < len
          · exact end_lt b off len cap m zs w hb hl hp hlt hml
          · obtain rfl : m = len := by omega
            exact end_eq b off m cap zs w hb hl hp hlt
        · obtain rfl : len = 0 := by omega
          obtain rfl : m = 0 := by omega
          exact end_zero x cap zs w
    · exact end_big (some x) len cap k w (by omega) hm

set_option maxRecDepth 100000 in
theorem end_lifted (os : Os) (started : os.Started) (H : Type) (enc : TypeId × Value → H) :
    ReturnsInHanded {} Tryd.checked os 4 .any (fun w args => (Rows.fnReaderEndReadsNothingSpec.pre enc Tryd.prog Tryd.f4 [] false w args ∧ laidMetH Tryd.prog laid1 w) ∧ sizedMet enc Tryd.prog Tryd.f4 (OpenSpec.ofChange Rows.fnReaderEndReadsNothingSpec) false w args)
      (Rows.fnReaderEndReadsNothingSpec.post enc Tryd.prog Tryd.f4 false true false false) := by
  refine returnsInHanded_of_change_and (C := Tryd.checked) (X := fun w _ => laidMetH Tryd.prog laid1 w) (fun _ _ _ hh h => h.of_heap hh) own started (by kernel_rfl) Tryd.func4
    (ChangeSpec.witness_shaped (enc := enc) (C := Tryd.checked) (os := os) (X := fun w _ => laidMetH Tryd.prog laid1 w) false (World.doorLaid Tryd.prog 100 os) #[.slice none 0 0, .int .i64 0] 8 rfl (World.shaped_of_RefB (by kernel_rfl) (by kernel_rfl)) (by kernel_rfl) (by kernel_rfl) (by kernel_rfl) (door_met os _)) ?_
  intro W base args ds gs before hval0 hW _ _ hL _
  have hval : ∀ (j : Nat) t v, Tryd.f4.params[j]? = some t → args[j]? = some v → Value.okWide Tryd.prog W .any base t v := hval0
  have hW' := hW
  obtain ⟨p, q, hA0, hV0, rfl, hfz, hnd⟩ := hW
  have hA : DataW.TrodAll enc Tryd.prog W 0 (fun _ => true) true Tryd.f4.params.toList args.toList ds p := hA0
  have hV : DataW.TrodVars enc Tryd.prog W (fun _ => true) [vname] gs q := hV0
  rw [Tryd.params4] at hA hval
  obtain ⟨v0, v1, d0, d1, p0, p1, rfl, rfl, rfl, h0, h1⟩ := trodAll_two hA
  obtain ⟨a0, len0, cap0, rfl⟩ := okWide_slice Tryd.underlying22 (hval 0 22 v0 rfl rfl)
  have k0 := h0
  have lt0 : ∀ x ∈ p0, x.block < W.heap.size := by obtain ⟨m, hm⟩ := k0; exact DataW.trod_lt m _ _ _ hm
  obtain ⟨zs, hz⟩ := open_bytes h0
  obtain ⟨n, rfl, rfl, rfl, wn⟩ := open_int Tryd.underlying3 (hval 1 3 v1 rfl rfl) h1
  obtain ⟨e, hv, hc, hs⟩ := of_laid hL
  obtain ⟨rfl, rfl⟩ := hV.unique (vars_read1 enc gE tE Tryd.underlying29 hv trivial _)
  clear hA0 hV0 hval0
  refine (end_any a0 len0 cap0 n zs W hz _ _ hc hs).mono fun e W' ⟨he, bel⟩ => ?_
  subst he
  exact ⟨_, rfl, _, _, _, [], _, [.cell 0 0], hW', trodAll_mk1 (shut_bool Tryd.underlying4 _), trodAll_mk2 (Below.trod laidOut (by kernel_rfl) (of_decide_eq_true (by kernel_rfl)) k0 bel lt0) (shut_int Tryd.underlying3 wn),
    vars_read1 enc gE tE Tryd.underlying29 (var?_below bel gE hs hv) trivial _, bel.frame _, fun h => by cases h⟩

theorem end_holds : Rows.FnReaderEndReadsNothingSaid :=
  OpenClaim.holds_of_wide 4 Tryd.f4 rfl rfl rfl rfl rfl rfl rfl ⟨rfl, rfl, rfl, rfl, rfl⟩ rfl rfl rfl rfl rfl (by kernel_rfl) Tryd.func4 (by kernel_rfl)
    (of_decide_eq_true (by kernel_rfl)) (by unfold Func.isWrapper; first | (rw [if_pos (by decide +kernel)]; kernel_rfl) | (rw [if_neg (by decide +kernel)]; exact ⟨rfl, rfl⟩))
    (fun os started H enc _ => end_lifted os started H enc)

theorem end_card : Rows.FnReaderEndReadsNothingCardSaid :=
  Claim7.holds_tied_plain_at .later [] [.sentinel] true Rows.fnReaderEndReadsNothingCard.stood.harness false
    end_holds (fun _ h => by cases h) (by kernel_rfl) (fun _ h => by cases h) fnReaderEndReadsNothing_row_tie rfl ⟨rfl, rfl⟩ (by kernel_rfl) rfl
    (fun f fn hf hfn => by
      obtain rfl : f = 4 := Option.some.inj ((show Tryd.prog.funcNamed Rows.fnReaderEndReadsNothingRow.func = some 4 by kernel_rfl).symm.trans hf) |>.symm
      obtain rfl : fn = Tryd.f4 := (Option.some.inj (Tryd.func4.symm.trans hfn)).symm
      exact ⟨by kernel_rfl, fun j t ht => by
        rw [Tryd.params4] at ht
        have hm : t ∈ [22, 3] := by simpa using Array.mem_of_getElem? ht
        have hall : ([22, 3].all fun u => !Tryd.prog.wantsStandIn u) = true := by kernel_rfl
        exact (show Tryd.prog.wantsStandIn t = false by simpa using List.all_eq_true.1 hall t hm)⟩)
    (by kernel_rfl)
end Go.Proofs.Qxb6614394aDoor
