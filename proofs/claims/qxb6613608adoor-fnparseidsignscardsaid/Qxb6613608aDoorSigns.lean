/- The walk of FnParseIDSigns. -/
import Derived.Test.Qxb6613608aDoorModel
namespace Go.Proofs.Qxb6613608aDoor
open Go.RowKit

theorem app_data (c : UInt8) (s : ByteArray) : ({ data := #[c] } ++ s : ByteArray).data.toList = c :: s.data.toList := by
  rw [ByteArray.data_append]; simp
theorem app_size (c : UInt8) (s : ByteArray) : ({ data := #[c] } ++ s : ByteArray).size = s.size + 1 := by
  rw [ByteArray.size_append]; show 1 + s.size = _; omega
theorem wrap_neg1 (M : Nat) (h : M < 9223372036854775808) : wrap64 (-(M : Int)) = -(M : Int) := by unfold wrap64; omega

/-- What the three answers are: (p, q, r) at s, at a plus sign and s, at a minus sign and s. -/
theorem signs_sign (s : ByteArray) (hpos : 0 < s.size) (h : s[0].toNat = 43 ∨ s[0].toNat = 45) : Pl.pid (43 :: s.data.toList) = 0 ∧ Pl.pid (45 :: s.data.toList) = 0 := by
  rw [Pl.pid_plus, Pl.pid_minus, list_at s hpos]
  obtain ⟨h1, h2⟩ := Pl.scan_sign s[0] (s.data.toList.drop 1) h
  rw [h1, h2]
  exact ⟨rfl, rfl⟩
theorem signs_same (s : ByteArray) (h : s.size = 0 ∨ ∃ hpos : 0 < s.size, s[0].toNat ≠ 43 ∧ s[0].toNat ≠ 45) : Pl.pid s.data.toList = Pl.plain (Pl.scanK s.data.toList) (Pl.scanM s.data.toList) := by
  rcases h with h | ⟨hpos, h43, h45⟩
  · have : s.data.toList = [] := List.length_eq_zero_iff.1 (by have : s.data.toList.length = s.size := by simp
                                                               omega)
    rw [this]; rfl
  · rw [list_at s hpos]; exact Pl.pid_other _ _ h43 h45

set_option maxHeartbeats 4000000 in
theorem signs_core (s : ByteArray) (w : World) (hm : s.size ≤ 1048576) (ev er : Value) (h0 : w.cell? ⟨0, 0, none⟩ = some ev) (hev : ev = .nilIface ∨ ∃ te pe, ev = .iface te pe)
    (h1 : w.cell? ⟨1, 0, none⟩ = some er) (her : er = .nilIface ∨ ∃ te pe, er = .iface te pe) :
    Calls Tryd.prog 3 #[.string s] w fun e w' => e = .returned (.bool true) ∧ Below w.heap.size w w' := by
  have hs : s.size ≤ maxLen := by unfold maxLen; omega
  have hd : decide (s.size ≤ 1048576) = true := decide_eq_true hm
  go_enter Tryd.func3, Tryd.ntmps3
  go_wp2_with fail
  refine (bytes1_any s _ hs).mono ?_
  rintro e w' ⟨rfl, rfl⟩
  rw [hd]
  clear hd
  go_wp2_with fail
  refine (zz_any s _ (by omega) ev er h0 hev h1 her).mono ?_
  rintro e w1 ⟨rfl, b1⟩
  have c0 : w1.cell? ⟨0, 0, none⟩ = some ev := (b1.cell (Lib.lt_of_cell h0)).trans h0
  have c1 : w1.cell? ⟨1, 0, none⟩ = some er := (b1.cell (Lib.lt_of_cell h1)).trans h1
  generalize hp : Pl.pid s.data.toList = p
  have Hp := hid hp
  clear hp h0 h1
  have B1 := hid b1
  clear b1
  go_wp2_with fail
  refine (zz_any _ _ (by rw [app_size]; omega) ev er c0 hev c1 her).mono ?_
  rintro e w2 ⟨rfl, b2⟩
  have e0 : w2.cell? ⟨0, 0, none⟩ = some ev := (b2.cell (Lib.lt_of_cell c0)).trans c0
  have e1 : w2.cell? ⟨1, 0, none⟩ = some er := (b2.cell (Lib.lt_of_cell c1)).trans c1
  rw [app_data]
  generalize hq : Pl.pid (43 :: s.data.toList) = q
  have Hq := hid hq
  clear hq c0 c1
  have B2 : Hid (Below w'.heap.size w' w2) := B1.out.trans (b2.mono B1.out.size)
  clear b2 B1
  go_wp2_with fail
  refine (zz_any _ _ (by rw [app_size]; omega) ev er e0 hev e1 her).mono ?_
  rintro e w3 ⟨rfl, b3⟩
  rw [app_data]
  generalize hr : Pl.pid (45 :: s.data.toList) = r
  have Hr := hid hr
  clear hr e0 e1
  have B3 : Hid (Below w'.heap.size w' w3) := B2.out.trans (b3.mono B2.out.size)
  clear b3 B2 hev her
  go_wp2_with fail
  refine (model_any s _ hs).mono ?_
  rintro e w4 ⟨rfl, rfl⟩
  rw [Hp.out]
  by_cases hsg : ∃ hpos : 0 < s.size, s[0].toNat = 43 ∨ s[0].toNat = 45
  · obtain ⟨hpos, hsg⟩ := hsg
    obtain ⟨z1, z2⟩ := signs_sign s hpos hsg
    obtain rfl : q = 0 := Hq.out.symm.trans z1
    obtain rfl : r = 0 := Hr.out.symm.trans z2
    clear z1 z2
    by_cases h43 : s[0].toNat = 43
    · have hc : ((s[0].toNat : Int) == 43) = true := by rw [h43]; rfl
      clear h43 hsg
      go_wp2_with fail
      go_ret
      exact ⟨rfl, B3.out⟩
    · have hc : ((s[0].toNat : Int) == 43) = false := by rw [beq_eq_false_iff_ne]; omega
      have hd : ((s[0].toNat : Int) == 45) = true := by rw [beq_iff_eq]; omega
      clear h43 hsg
      go_wp2_with fail
      go_ret
      exact ⟨rfl, B3.out⟩
  · have hns : s.size = 0 ∨ ∃ hpos : 0 < s.size, s[0].toNat ≠ 43 ∧ s[0].toNat ≠ 45 := by
      by_cases h : s.size = 0
      · exact Or.inl h
      · exact Or.inr ⟨by omega, fun x => hsg ⟨by omega, Or.inl x⟩, fun x => hsg ⟨by omega, Or.inr x⟩⟩
    have zp := signs_same s hns
    have zq := Pl.pid_plus s.data.toList
    have zr := Pl.pid_minus s.data.toList
    have hsc := hid (fun w => scan_any s w hs)
    have HK := hid (Pl.scan_cases s.data.toList)
    have HE : Hid (s.size = 0 → Pl.scanK s.data.toList = 0 ∧ Pl.scanM s.data.toList = 0) := fun h => by
      have : s.data.toList = [] := List.length_eq_zero_iff.1 (by have : s.data.toList.length = s.size := by simp
                                                                 omega)
      rw [this]; exact Pl.scan_nil
    generalize Pl.scanK s.data.toList = K at zp zq zr hsc HK HE
    generalize Pl.scanM s.data.toList = M at zp zq zr hsc HK HE
    obtain rfl : p = Pl.plain K M := Hp.out.symm.trans zp
    obtain rfl : q = Pl.plain K M := Hq.out.symm.trans zq
    obtain rfl : r = Pl.minus K M := Hr.out.symm.trans zr
    clear zp zq zr hsg Hp Hq Hr
    rcases hns with h | ⟨hpos, h43, h45⟩
    · have hz : (s.size : Int) ≤ 0 := by omega
      obtain ⟨rfl, rfl⟩ := HE.out h
      rw [show Pl.plain 0 0 = 0 from rfl, show Pl.minus 0 0 = 0 from rfl]
      clear HK HE h
      go_wp2_with fail
      refine (hsc.out _).mono ?_
      rintro e w5 ⟨rfl, rfl⟩
      go_wp2_with fail
      go_ret
      exact ⟨rfl, B3.out⟩
    · clear HE
      have hc : ((s[0].toNat : Int) == 43) = false := by rw [beq_eq_false_iff_ne]; omega
      have hd : ((s[0].toNat : Int) == 45) = false := by rw [beq_eq_false_iff_ne]; omega
      clear h43 h45
      rcases HK.out with ⟨rfl, rfl⟩ | ⟨rfl, rfl⟩ | ⟨rfl, -, -, hM, -⟩
      · rw [show Pl.plain 2 0 = 9223372036854775807 from rfl, show Pl.minus 2 0 = -9223372036854775808 from rfl]
        clear HK
        go_wp2_with fail
        refine (hsc.out _).mono ?_
        rintro e w5 ⟨rfl, rfl⟩
        go_wp2_with fail
        go_ret
        exact ⟨rfl, B3.out⟩
      · rw [show Pl.plain 0 0 = 0 from rfl, show Pl.minus 0 0 = 0 from rfl]
        clear HK
        go_wp2_with fail
        refine (hsc.out _).mono ?_
        rintro e w5 ⟨rfl, rfl⟩
        go_wp2_with fail
        go_ret
        exact ⟨rfl, B3.out⟩
      · clear HK
        unfold Pl.top at hM
        by_cases hbig : (9223372036854775808 : Int) ≤ (M : Int)
        · rw [show Pl.plain 1 M = 9223372036854775807 from by simp only [Pl.plain]; simp; omega, show Pl.minus 1 M = -9223372036854775808 from by simp only [Pl.minus]; simp; omega]
          have hg : decide ((9223372036854775808 : Int) ≤ (M : Int)) = true := by simpa using hbig
          clear hM hbig
          go_wp2_with fail
          refine (hsc.out _).mono ?_
          rintro e w5 ⟨rfl, rfl⟩
          clear hsc
          go_wp2_with fail
          go_ret
          exact ⟨rfl, B3.out⟩
        · rw [show Pl.plain 1 M = (M : Int) from by simp only [Pl.plain]; simp; omega, show Pl.minus 1 M = -(M : Int) from by simp only [Pl.minus]; simp; omega]
          have hg : decide ((9223372036854775808 : Int) ≤ (M : Int)) = false := by simpa using hbig
          have HW := hid (wrap_neg1 M (by omega))
          clear hM hbig
          go_wp2_with fail
          refine (hsc.out _).mono ?_
          rintro e w5 ⟨rfl, rfl⟩
          clear hsc
          go_wp2_with fail
          go_ret
          exact ⟨ret_bool (by rw [HW.out]; simp), B3.out⟩

theorem signs_any (s : ByteArray) (w : World) (hs : s.size ≤ maxLen) (ev er : Value) (h0 : w.cell? ⟨0, 0, none⟩ = some ev) (hev : ev = .nilIface ∨ ∃ te pe, ev = .iface te pe)
    (h1 : w.cell? ⟨1, 0, none⟩ = some er) (her : er = .nilIface ∨ ∃ te pe, er = .iface te pe) :
    Calls Tryd.prog 3 #[.string s] w fun e w' => e = .returned (.bool true) ∧ Below w.heap.size w w' := by
  by_cases hm : s.size ≤ 1048576
  · exact signs_core s w hm ev er h0 hev h1 her
  · have hd : decide (s.size ≤ 1048576) = false := decide_eq_false hm
    clear h0 h1 hev her
    go_enter Tryd.func3, Tryd.ntmps3
    go_wp2_with fail
    refine (bytes1_any s _ hs).mono ?_
    rintro e w' ⟨rfl, rfl⟩
    rw [hd]
    go_wp2_with fail
    go_ret
    exact ⟨rfl, Below.refl _ _⟩
end Go.Proofs.Qxb6613608aDoor
