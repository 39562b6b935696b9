/- FnReaderTakeSplitAgrees: the row, proved; the tied card. -/
import Derived.Test.Qxb6614394aDoorSplitOut
import Derived.Test.Qxb6614394aDoorLaid
import Derived.Test.Qxb6614394aDoorTie
import Derived.Test.Qxb6614394aDoorCards
import Derived.SevenTiedAt
namespace Go.Proofs.Qxb6614394aDoor
open Go.ChangeShapes Go.WideShapes Go.ChangeAt Go.RowKit

theorem spl_any (v : Option Addr) (len cap : Nat) (a b : Int) (zs : List Int) (w : World) (h : BytesAt w v len cap zs) (t : TypeId) (p : Value) (he : w.cell? ⟨0, 0, none⟩ = some (.iface t p)) (h0 : 0 < w.heap.size) :
    Calls Tryd.prog 3 #[.slice v len cap, .int .i64 a, .int .i64 b] w fun e w' => e = .returned (.bool true) ∧ Below w.heap.size w w' := by
  by_cases hbig : len ≤ 1048576
  case neg =>
    rcases h with ⟨rfl, rfl, rfl⟩ | ⟨x, rfl, hl, hm, hc⟩
    · omega
    · exact spl_big (some x) len cap a b w (by omega) hm
  by_cases hg : a < 0 ∨ b < 0 ∨ 4611686018427387903 < a ∨ 4611686018427387903 < b
  · exact spl_guard v len cap a b w hbig hg
  obtain ⟨m, rfl⟩ : ∃ m : Nat, a = (m : Int) := ⟨a.toNat, by omega⟩
  obtain ⟨n, rfl⟩ : ∃ n : Nat, b = (n : Int) := ⟨b.toNat, by omega⟩
  have hm4 : (m : Int) ≤ 4611686018427387903 := by omega
  have hn4 : (n : Int) ≤ 4611686018427387903 := by omega
  clear hg
  rcases h with ⟨rfl, rfl, rfl⟩ | ⟨x, rfl, hl, -, hc⟩
  · by_cases hm : 0 < m
    · exact out_nil_a m n w hm hm4 hn4 t p he h0
    · obtain rfl : m = 0 := by omega
      by_cases hn : 0 < n
      · exact out_nil_b n w hn hn4 t p he h0
      · obtain rfl : n = 0 := by omega
        exact spl_nil_zero w
  · by_cases hgt : len < m
    · exact out_gt x len cap m n zs w hbig hc hgt hm4 hn4 t p he h0
    · by_cases hz : 0 < len
      · obtain ⟨c, off, rfl, hlt, hp⟩ := plain_of hc hz
        by_cases hml : m < len
        · by_cases hs : m + n < len
          · exact spl_lt c off len cap m n zs w hbig hl hp hlt hs
          · by_cases hs2 : m + n = len
            · exact spl_eq c off len cap m n zs w hbig hl hp hlt hs2 (by omega)
            · exact out_lt c off len cap m n zs w hbig hl hp hlt hml (by omega) hn4 t p he h0
        · obtain rfl : m = len := by omega
          by_cases hn : 0 < n
          · exact out_len c off m cap n zs w hbig hl hp hlt hn hn4 t p he h0
          · obtain rfl : n = 0 := by omega
            exact spl_len c off m cap zs w hbig hl hp hlt
      · obtain rfl : len = 0 := by omega
        obtain rfl : m = 0 := by omega
        by_cases hn : 0 < n
        · exact out_zero x cap n zs w hn hn4 t p he h0
        · obtain rfl : n = 0 := by omega
          exact spl_zero x cap zs w

set_option maxRecDepth 100000 in
theorem spl_lifted (os : Os) (started : os.Started) (H : Type) (enc : TypeId × Value → H) :
    ReturnsInHanded {} Tryd.checked os 3 .any (fun w args => (Rows.fnReaderTakeSplitAgreesSpec.pre enc Tryd.prog Tryd.f3 [] false w args ∧ laidMetH Tryd.prog laid1 w) ∧ sizedMet enc Tryd.prog Tryd.f3 (OpenSpec.ofChange Rows.fnReaderTakeSplitAgreesSpec) false w args)
      (Rows.fnReaderTakeSplitAgreesSpec.post enc Tryd.prog Tryd.f3 false true false false) := by
  refine returnsInHanded_of_change_and (C := Tryd.checked) (X := fun w _ => laidMetH Tryd.prog laid1 w) (fun _ _ _ hh h => h.of_heap hh) own started (by kernel_rfl) Tryd.func3
    (ChangeSpec.witness_shaped (enc := enc) (C := Tryd.checked) (os := os) (X := fun w _ => laidMetH Tryd.prog laid1 w) false (World.doorLaid Tryd.prog 100 os) #[.slice none 0 0, .int .i64 0, .int .i64 0] 8 rfl (World.shaped_of_RefB (by kernel_rfl) (by kernel_rfl)) (by kernel_rfl) (by kernel_rfl) (by kernel_rfl) (door_met os _)) ?_
  intro W base args ds gs before hval0 hW _ _ hL _
  have hval : ∀ (j : Nat) t v, Tryd.f3.params[j]? = some t → args[j]? = some v → Value.okWide Tryd.prog W .any base t v := hval0
  have hW' := hW
  obtain ⟨p, q, hA0, hV0, rfl, hfz, hnd⟩ := hW
  have hA : DataW.TrodAll enc Tryd.prog W 0 (fun _ => true) true Tryd.f3.params.toList args.toList ds p := hA0
  have hV : DataW.TrodVars enc Tryd.prog W (fun _ => true) [vname] gs q := hV0
  rw [Tryd.params3] at hA hval
  obtain ⟨v0, v1, v2, d0, d1, d2, p0, p1, p2, rfl, rfl, rfl, h0, h1, h2⟩ := trodAll_three hA
  obtain ⟨a0, len0, cap0, rfl⟩ := okWide_slice Tryd.underlying22 (hval 0 22 v0 rfl rfl)
  have k0 := h0
  have lt0 : ∀ x ∈ p0, x.block < W.heap.size := by obtain ⟨m, hm⟩ := k0; exact DataW.trod_lt m _ _ _ hm
  obtain ⟨zs, hz⟩ := open_bytes h0
  obtain ⟨n, rfl, rfl, rfl, wn⟩ := open_int Tryd.underlying3 (hval 1 3 v1 rfl rfl) h1
  obtain ⟨n2, rfl, rfl, rfl, wn2⟩ := open_int Tryd.underlying3 (hval 2 3 v2 rfl rfl) h2
  obtain ⟨e, hv, hc, hs⟩ := of_laid hL
  obtain ⟨rfl, rfl⟩ := hV.unique (vars_read1 enc gE tE Tryd.underlying29 hv trivial _)
  clear hA0 hV0 hval0
  refine (spl_any a0 len0 cap0 n n2 zs W hz _ _ hc hs).mono fun e W' ⟨he, bel⟩ => ?_
  subst he
  exact ⟨_, rfl, _, _, _, [], _, [.cell 0 0], hW', trodAll_mk1 (shut_bool Tryd.underlying4 _), trodAll_mk3 (Below.trod laidOut (by kernel_rfl) (of_decide_eq_true (by kernel_rfl)) k0 bel lt0) (shut_int Tryd.underlying3 wn) (shut_int Tryd.underlying3 wn2),
    vars_read1 enc gE tE Tryd.underlying29 (var?_below bel gE hs hv) trivial _, bel.frame _, fun h => by cases h⟩

theorem spl_holds : Rows.FnReaderTakeSplitAgreesSaid :=
  OpenClaim.holds_of_wide 3 Tryd.f3 rfl rfl rfl rfl rfl rfl rfl ⟨rfl, rfl, rfl, rfl, rfl⟩ rfl rfl rfl rfl rfl (by kernel_rfl) Tryd.func3 (by kernel_rfl)
    (of_decide_eq_true (by kernel_rfl)) (by unfold Func.isWrapper; first | (rw [if_pos (by decide +kernel)]; kernel_rfl) | (rw [if_neg (by decide +kernel)]; exact ⟨rfl, rfl⟩))
    (fun os started H enc _ => spl_lifted os started H enc)

theorem spl_card : Rows.FnReaderTakeSplitAgreesCardSaid :=
  Claim7.holds_tied_plain_at .later [] [.sentinel] true Rows.fnReaderTakeSplitAgreesCard.stood.harness false
    spl_holds (fun _ h => by cases h) (by kernel_rfl) (fun _ h => by cases h) fnReaderTakeSplitAgrees_row_tie rfl ⟨rfl, rfl⟩ (by kernel_rfl) rfl
    (fun f fn hf hfn => by
      obtain rfl : f = 3 := Option.some.inj ((show Tryd.prog.funcNamed Rows.fnReaderTakeSplitAgreesRow.func = some 3 by kernel_rfl).symm.trans hf) |>.symm
      obtain rfl : fn = Tryd.f3 := (Option.some.inj (Tryd.func3.symm.trans hfn)).symm
      exact ⟨by kernel_rfl, fun j t ht => by
        rw [Tryd.params3] at ht
        have hm : t ∈ [22, 3, 3] := by simpa using Array.mem_of_getElem? ht
        have hall : ([22, 3, 3].all fun u => !Tryd.prog.wantsStandIn u) = true := by kernel_rfl
        exact (show Tryd.prog.wantsStandIn t = false by simpa using List.all_eq_true.1 hall t hm)⟩)
    (by kernel_rfl)
end Go.Proofs.Qxb6614394aDoor
