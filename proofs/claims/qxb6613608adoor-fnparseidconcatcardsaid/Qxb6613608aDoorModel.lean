/- The walks of zzb1Model, parseID, ZZparseID and the two guards. -/
import Derived.Test.Qxb6613608aDoorWalks
import Derived.Test.Qxb6613608aDoorShelf
namespace Go.Proofs.Qxb6613608aDoor
open Go.RowKit

theorem evOf {ev : Value} {w : World} (h : w.cell? ⟨0, 0, none⟩ = some ev) : 0 < w.heap.size := Lib.lt_of_cell h

set_option maxHeartbeats 400000 in
theorem parse_any (s : ByteArray) (w : World) (hlim : s.size ≤ 281474976710656) (ev er : Value) (h0 : w.cell? ⟨0, 0, none⟩ = some ev) (hev : ev = .nilIface ∨ ∃ te pe, ev = .iface te pe)
    (h1 : w.cell? ⟨1, 0, none⟩ = some er) (her : er = .nilIface ∨ ∃ te pe, er = .iface te pe) :
    Calls Tryd.prog 10 #[.string s] w fun e w' => e = .returned (.int .i64 (Pl.pid s.data.toList)) ∧ Below w.heap.size w w' := by
  cases h : Lib.parseIntB 64 s.data.toList
  · rename_i v
    have hv : Pl.pid s.data.toList = v := by unfold Pl.pid; rw [h]; rfl
    have c : Calls Tryd.prog 14 #[.string s, .int .i64 10, .int .i64 64] w fun e w' => e = .returned (.tuple #[.int .i64 v, .nilIface]) ∧ (w' = w ∨ ∃ t, w' = Lib.bytesWorld w 5 t) := Any.strconv_ParseInt_10_at64_ok Tryd.laysC174 s (by omega) v h w
    rw [hv]
    clear h hv h0 h1
    go_enter Tryd.func10, Tryd.ntmps10
    go_wp2_with fail
    refine c.mono ?_
    rintro e w' ⟨rfl, hw⟩
    have hb : Below w.heap.size w w' := by
      rcases hw with rfl | ⟨t, rfl⟩
      · exact Below.refl _ _
      · exact ⟨rfl, rfl, rfl, by rw [Lib.bytesWorld_size]; omega, fun j hj => Lib.bytesWorld_at_old w 5 t j hj⟩
    clear hw
    go_wp2_with fail
    go_ret
    exact ⟨rfl, hb⟩
  · have hv : Pl.pid s.data.toList = 0 := by unfold Pl.pid; rw [h]; rfl
    have c := Any.strconv_ParseInt_10_at64_syntax Tryd.laysC174 s hlim h ev w h0 hev
    rw [hv]
    clear h hv h0 h1
    go_enter Tryd.func10, Tryd.ntmps10
    go_wp2_with fail
    refine Calls.mono c ?_
    rintro e w' ⟨N, rfl, -, -, hb⟩
    go_wp2_with fail
    go_ret
    exact ⟨rfl, hb⟩
  · have hv : Pl.pid s.data.toList = Lib.intSat 64 s.data.toList := by unfold Pl.pid; rw [h]; rfl
    have c := Any.strconv_ParseInt_10_at64_range Tryd.laysC174 s hlim h er w h1 her
    rw [hv]
    generalize Lib.intSat 64 s.data.toList = v at *
    clear h hv h0 h1
    go_enter Tryd.func10, Tryd.ntmps10
    go_wp2_with fail
    refine Calls.mono c ?_
    rintro e w' ⟨N, rfl, -, -, hb⟩
    go_wp2_with fail
    go_ret
    exact ⟨rfl, hb⟩

theorem zz_any (s : ByteArray) (w : World) (hlim : s.size ≤ 281474976710656) (ev er : Value) (h0 : w.cell? ⟨0, 0, none⟩ = some ev) (hev : ev = .nilIface ∨ ∃ te pe, ev = .iface te pe)
    (h1 : w.cell? ⟨1, 0, none⟩ = some er) (her : er = .nilIface ∨ ∃ te pe, er = .iface te pe) :
    Calls Tryd.prog 6 #[.string s] w fun e w' => e = .returned (.int .i64 (Pl.pid s.data.toList)) ∧ Below w.heap.size w w' := by
  go_enter Tryd.func6, Tryd.ntmps6
  go_wp2_with fail
  refine (parse_any s _ hlim ev er h0 hev h1 her).mono ?_
  rintro e w' ⟨rfl, hb⟩
  go_wp2_with fail
  go_ret
  exact ⟨rfl, hb⟩

theorem bytes1_any (s : ByteArray) (w : World) (hs : s.size ≤ maxLen) : Calls Tryd.prog 5 #[.string s] w fun e w' => e = .returned (.bool (decide (s.size ≤ 1048576))) ∧ w' = w := by
  unfold maxLen at hs
  by_cases h : s.size ≤ 1048576
  · rw [decide_eq_true h]
    go_enter Tryd.func5, Tryd.ntmps5
    go_wp2
    go_ret
    exact ⟨rfl, rfl⟩
  · rw [decide_eq_false h]
    go_enter Tryd.func5, Tryd.ntmps5
    go_wp2
    go_ret
    exact ⟨rfl, rfl⟩

theorem bytes2_any (s t : ByteArray) (w : World) (hs : s.size ≤ maxLen) (ht : t.size ≤ maxLen) : Calls Tryd.prog 9 #[.string s, .string t] w fun e w' => e = .returned (.bool (decide (s.size + t.size ≤ 1048576))) ∧ w' = w := by
  unfold maxLen at hs ht
  by_cases h : s.size + t.size ≤ 1048576
  · rw [decide_eq_true h]
    go_enter Tryd.func9, Tryd.ntmps9
    go_wp2
    go_ret
    exact ⟨rfl, rfl⟩
  · rw [decide_eq_false h]
    by_cases h1 : s.size ≤ 1048576
    · by_cases h2 : t.size ≤ 1048576
      · go_enter Tryd.func9, Tryd.ntmps9
        go_wp2
        go_ret
        exact ⟨rfl, rfl⟩
      · go_enter Tryd.func9, Tryd.ntmps9
        go_wp2
        go_ret
        exact ⟨rfl, rfl⟩
    · go_enter Tryd.func9, Tryd.ntmps9
      go_wp2
      go_ret
      exact ⟨rfl, rfl⟩

theorem wrap_neg (M : Nat) (h : M < 9223372036854775808) : wrap64 (-wrap64 (M : Int)) = -(M : Int) := by
  have e1 : wrap64 (M : Int) = M := by unfold wrap64; omega
  rw [e1]; unfold wrap64; omega
theorem list_at (s : ByteArray) (h : 0 < s.size) : s.data.toList = s[0] :: s.data.toList.drop 1 := by
  have := drop_at s 0 h; rwa [List.drop_zero] at this
theorem ext_one (s : ByteArray) : (s.extract 1 s.size).data.toList = s.data.toList.drop 1 := by
  rw [Lib.extract_data, List.take_of_length_le (by simp)]

set_option maxHeartbeats 1000000 in
theorem model_plus (s : ByteArray) (w : World) (hm : s.size ≤ 9223372036854775807) (hpos : 0 < s.size) (hb : ((s.size : Int) == 0) = false) (hc : ((s[0].toNat : Int) == 43) = true) (hd : ((s[0].toNat : Int) == 45) = false)
    (K M : Nat) (hK : K = 0 ∨ K = 2 ∨ (K = 1 ∧ M ≤ 18446744073709551615)) (hsc : Hid (∀ w : World, Calls Tryd.prog 8 #[.string (s.extract 1 s.size)] w fun e w' => e = .returned (.tuple #[.int .i64 K, .int .u64 M]) ∧ w' = w)) :
    Calls Tryd.prog 7 #[.string s] w fun e w' => e = .returned (.int .i64 (Pl.plain K M)) ∧ w' = w := by
  rcases hK with rfl | rfl | ⟨rfl, hM⟩
  · rw [show Pl.plain 0 M = 0 from rfl]
    go_enter Tryd.func7, Tryd.ntmps7
    go_wp2_with fail
    refine (hsc.out _).mono ?_
    rintro e w' ⟨rfl, rfl⟩
    go_wp2
    go_ret
    exact ⟨rfl, rfl⟩
  · rw [show Pl.plain 2 M = 9223372036854775807 from rfl]
    go_enter Tryd.func7, Tryd.ntmps7
    go_wp2_with fail
    refine (hsc.out _).mono ?_
    rintro e w' ⟨rfl, rfl⟩
    go_wp2
    go_ret
    exact ⟨rfl, rfl⟩
  · by_cases hbig : 9223372036854775807 < M
    · rw [show Pl.plain 1 M = 9223372036854775807 from by simp only [Pl.plain]; simp; omega]
      go_enter Tryd.func7, Tryd.ntmps7
      go_wp2_with fail
      refine (hsc.out _).mono ?_
      rintro e w' ⟨rfl, rfl⟩
      go_wp2
      go_ret
      exact ⟨rfl, rfl⟩
    · rw [show Pl.plain 1 M = (M : Int) from by simp only [Pl.plain]; simp; omega]
      go_enter Tryd.func7, Tryd.ntmps7
      go_wp2_with fail
      refine (hsc.out _).mono ?_
      rintro e w' ⟨rfl, rfl⟩
      go_wp2
      go_ret
      exact ⟨rfl, rfl⟩

set_option maxRecDepth 100000 in
set_option maxHeartbeats 1000000 in
theorem model_minus (s : ByteArray) (w : World) (hm : s.size ≤ 9223372036854775807) (hpos : 0 < s.size) (hb : ((s.size : Int) == 0) = false) (hc : ((s[0].toNat : Int) == 43) = false) (hd : ((s[0].toNat : Int) == 45) = true)
    (K M : Nat) (hK : K = 0 ∨ K = 2 ∨ (K = 1 ∧ M ≤ 18446744073709551615)) (hsc : Hid (∀ w : World, Calls Tryd.prog 8 #[.string (s.extract 1 s.size)] w fun e w' => e = .returned (.tuple #[.int .i64 K, .int .u64 M]) ∧ w' = w)) :
    Calls Tryd.prog 7 #[.string s] w fun e w' => e = .returned (.int .i64 (Pl.minus K M)) ∧ w' = w := by
  rcases hK with rfl | rfl | ⟨rfl, hM⟩
  · rw [show Pl.minus 0 M = 0 from rfl]
    go_enter Tryd.func7, Tryd.ntmps7
    go_wp2_with fail
    refine (hsc.out _).mono ?_
    rintro e w' ⟨rfl, rfl⟩
    go_wp2
    go_ret
    exact ⟨rfl, rfl⟩
  · rw [show Pl.minus 2 M = -9223372036854775808 from rfl]
    go_enter Tryd.func7, Tryd.ntmps7
    go_wp2_with fail
    refine (hsc.out _).mono ?_
    rintro e w' ⟨rfl, rfl⟩
    go_wp2
    go_ret
    exact ⟨rfl, rfl⟩
  · by_cases hbig : (9223372036854775808 : Int) ≤ (M : Int)
    · rw [show Pl.minus 1 M = -9223372036854775808 from by simp only [Pl.minus]; simp; omega]
      have hle : (M : Int) ≤ 18446744073709551615 := by omega
      clear hM
      go_enter Tryd.func7, Tryd.ntmps7
      go_wp2_with fail
      refine (hsc.out _).mono ?_
      rintro e w' ⟨rfl, rfl⟩
      go_wp2
      go_ret
      exact ⟨rfl, rfl⟩
    · rw [show Pl.minus 1 M = -(M : Int) from by simp only [Pl.minus]; simp; omega]
      have HW := hid (wrap_neg M (by omega))
      have hg : decide ((9223372036854775808 : Int) ≤ (M : Int)) = false := by simpa using hbig
      clear hM hbig
      go_enter Tryd.func7, Tryd.ntmps7
      go_wp2_with fail
      refine (hsc.out _).mono ?_
      rintro e w' ⟨rfl, rfl⟩
      clear hsc
      go_wp2
      go_ret
      exact ⟨ret_int HW.out, rfl⟩

set_option maxHeartbeats 1000000 in
theorem model_plain (s : ByteArray) (w : World) (hpos : 0 < s.size) (hb : ((s.size : Int) == 0) = false) (hc : ((s[0].toNat : Int) == 43) = false) (hd : ((s[0].toNat : Int) == 45) = false)
    (K M : Nat) (hK : K = 0 ∨ K = 2 ∨ (K = 1 ∧ M ≤ 18446744073709551615)) (hsc : Hid (∀ w : World, Calls Tryd.prog 8 #[.string s] w fun e w' => e = .returned (.tuple #[.int .i64 K, .int .u64 M]) ∧ w' = w)) :
    Calls Tryd.prog 7 #[.string s] w fun e w' => e = .returned (.int .i64 (Pl.plain K M)) ∧ w' = w := by
  rcases hK with rfl | rfl | ⟨rfl, hM⟩
  · rw [show Pl.plain 0 M = 0 from rfl]
    go_enter Tryd.func7, Tryd.ntmps7
    go_wp2_with fail
    refine (hsc.out _).mono ?_
    rintro e w' ⟨rfl, rfl⟩
    go_wp2
    go_ret
    exact ⟨rfl, rfl⟩
  · rw [show Pl.plain 2 M = 9223372036854775807 from rfl]
    go_enter Tryd.func7, Tryd.ntmps7
    go_wp2_with fail
    refine (hsc.out _).mono ?_
    rintro e w' ⟨rfl, rfl⟩
    go_wp2
    go_ret
    exact ⟨rfl, rfl⟩
  · by_cases hbig : 9223372036854775807 < M
    · rw [show Pl.plain 1 M = 9223372036854775807 from by simp only [Pl.plain]; simp; omega]
      go_enter Tryd.func7, Tryd.ntmps7
      go_wp2_with fail
      refine (hsc.out _).mono ?_
      rintro e w' ⟨rfl, rfl⟩
      go_wp2
      go_ret
      exact ⟨rfl, rfl⟩
    · rw [show Pl.plain 1 M = (M : Int) from by simp only [Pl.plain]; simp; omega]
      go_enter Tryd.func7, Tryd.ntmps7
      go_wp2_with fail
      refine (hsc.out _).mono ?_
      rintro e w' ⟨rfl, rfl⟩
      go_wp2
      go_ret
      exact ⟨rfl, rfl⟩

theorem model_any (s : ByteArray) (w : World) (hs : s.size ≤ maxLen) :
    Calls Tryd.prog 7 #[.string s] w fun e w' => e = .returned (.int .i64 (Pl.pid s.data.toList)) ∧ w' = w := by
  have hm : s.size ≤ 9223372036854775807 := by unfold maxLen at hs; omega
  by_cases h0 : s.size = 0
  · have hp : Pl.pid s.data.toList = 0 := by
      have : s.data.toList = [] := List.length_eq_zero_iff.1 (by have : s.data.toList.length = s.size := by simp
                                                                 omega)
      rw [this]; rfl
    have hb : ((s.size : Int) == 0) = true := by rw [h0]; rfl
    rw [hp]
    clear hp h0
    go_enter Tryd.func7, Tryd.ntmps7
    go_wp2
    go_ret
    exact ⟨rfl, rfl⟩
  · have hpos : 0 < s.size := by omega
    have hb : ((s.size : Int) == 0) = false := by rw [beq_eq_false_iff_ne]; omega
    have hl := list_at s hpos
    have he := ext_one s
    have hk : ∀ l : List UInt8, Pl.scanK l = 0 ∨ Pl.scanK l = 2 ∨ (Pl.scanK l = 1 ∧ Pl.scanM l ≤ 18446744073709551615) := fun l => by
      rcases Pl.scan_cases l with ⟨k1, _⟩ | ⟨k1, _⟩ | ⟨k1, _, _, k2, _⟩
      · exact Or.inr (Or.inl k1)
      · exact Or.inl k1
      · exact Or.inr (Or.inr ⟨k1, k2⟩)
    have hx : ∀ w : World, Calls Tryd.prog 8 #[.string (s.extract 1 s.size)] w fun e w' => e = .returned (.tuple #[.int .i64 (Pl.scanK (s.data.toList.drop 1)), .int .u64 (Pl.scanM (s.data.toList.drop 1))]) ∧ w' = w := fun w => by
      have := scan_any (s.extract 1 s.size) w (by simp only [ByteArray.size_extract]; omega)
      rwa [he] at this
    by_cases h43 : s[0].toNat = 43
    · have hp : Pl.pid s.data.toList = Pl.plain (Pl.scanK (s.data.toList.drop 1)) (Pl.scanM (s.data.toList.drop 1)) := by
        rw [hl, show s[0] = 43 from UInt8.toNat_inj.1 h43, Pl.pid_plus]; rfl
      rw [hp]
      exact model_plus s w hm hpos hb (by rw [h43]; rfl) (by rw [h43]; rfl) _ _ (hk _) hx
    · by_cases h45 : s[0].toNat = 45
      · have hp : Pl.pid s.data.toList = Pl.minus (Pl.scanK (s.data.toList.drop 1)) (Pl.scanM (s.data.toList.drop 1)) := by
          rw [hl, show s[0] = 45 from UInt8.toNat_inj.1 h45, Pl.pid_minus]; rfl
        rw [hp]
        exact model_minus s w hm hpos hb (by rw [h45]; rfl) (by rw [h45]; rfl) _ _ (hk _) hx
      · have hp : Pl.pid s.data.toList = Pl.plain (Pl.scanK s.data.toList) (Pl.scanM s.data.toList) := by
          rw [hl]; exact Pl.pid_other _ _ h43 h45
        rw [hp]
        exact model_plain s w hpos hb (by rw [beq_eq_false_iff_ne]; omega) (by rw [beq_eq_false_iff_ne]; omega) _ _ (hk _) (fun w => scan_any s w hs)
end Go.Proofs.Qxb6613608aDoor
