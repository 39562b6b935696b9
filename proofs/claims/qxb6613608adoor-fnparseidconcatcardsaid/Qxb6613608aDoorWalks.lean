/- The walks of the helpers: zzb1DigitPrefix, zzb1StripZeros, zzb1Greater, zzb1Scan. -/
import Derived.Test.Qxb6613608aDoorRows
import Derived.Test.Qxb6613608aDoorPlain
import Derived.Lib.Strings
import Derived.WalkKit
import Derived.WalkSpells
import Derived.WalkLawsBesides
namespace Go.Proofs.Qxb6613608aDoor
open Go.RowKit

theorem drop_at (s : ByteArray) (k : Nat) (h : k < s.size) : s.data.toList.drop k = s[k] :: s.data.toList.drop (k + 1) := by
  rw [List.drop_eq_getElem_cons (by simpa using h)]; rfl
theorem ret_int {k : IntKind} {a b : Int} (h : a = b) : Ending.returned (.int k a) = .returned (.int k b) := by rw [h]
theorem ret_bool {a b : Bool} (h : a = b) : Ending.returned (.bool a) = .returned (.bool b) := by rw [h]
theorem dig_yes (c : UInt8) (h1 : 48 ≤ (c.toNat : Int)) (h2 : (c.toNat : Int) ≤ 57) : Pl.isDig c = true := by
  simp only [Pl.isDig, Bool.and_eq_true, decide_eq_true_eq]; omega
theorem dig_no (c : UInt8) (h : ¬ (48 ≤ (c.toNat : Int) ∧ (c.toNat : Int) ≤ 57)) : Pl.isDig c = false := by
  simp only [Pl.isDig, Bool.and_eq_false_iff, decide_eq_false_iff_not]; omega

set_option maxHeartbeats 400000 in
theorem prefix_any (s : ByteArray) (w : World) (hs : s.size ≤ maxLen) :
    Calls Tryd.prog 11 #[.string s] w fun e w' => e = .returned (.int .i64 (Pl.pre s.data.toList)) ∧ w' = w := by
  unfold maxLen at hs
  go_enter Tryd.func11, Tryd.ntmps11
  go_wp2
  go_loop [3] (fun i => ∃ k : Nat, k ≤ s.size ∧ i = .int .i64 k ∧ Pl.pre s.data.toList = k + Pl.pre (s.data.toList.drop k)) (fun i => s.size - (intOf i).toNat)
  case atStart => exact ⟨0, Nat.zero_le _, rfl, by simp⟩
  case round =>
    obtain ⟨k, hk, rfl, hp⟩ := hrel
    have HP : Hid (Pl.pre s.data.toList = k + Pl.pre (s.data.toList.drop k)) := hp
    clear hp
    by_cases hlt : k < s.size
    · have hd := drop_at s k hlt
      have HS : Hid (Pl.pre (s.data.toList.drop k) = if Pl.isDig s[k] then Pl.pre (s.data.toList.drop (k + 1)) + 1 else 0) := by rw [hd]; rfl
      clear hd
      go_wp2
      · go_round
        case rel => exact ⟨k + 1, by omega, by go_num, by rw [HP.out, HS.out, if_pos (dig_yes _ ‹_› ‹_›)]; omega⟩
        case measure => simp [intOf]; omega
      · go_ret
        exact ⟨ret_int (by rw [HP.out, HS.out, if_neg (by rw [dig_no _ (by omega)]; decide)]; simp), rfl⟩
      · go_ret
        exact ⟨ret_int (by rw [HP.out, HS.out, if_neg (by rw [dig_no _ (by omega)]; decide)]; simp), rfl⟩
    · go_wp2
      go_ret
      exact ⟨ret_int (by rw [HP.out, List.drop_eq_nil_of_le (by simp; omega)]; simp [Pl.pre]), rfl⟩

set_option maxHeartbeats 400000 in
theorem strip_any (s : ByteArray) (w : World) (hs : s.size ≤ maxLen) :
    Calls Tryd.prog 12 #[.string s] w fun e w' => ∃ z : ByteArray, e = .returned (.string z) ∧ z.data.toList = Pl.strip s.data.toList ∧ w' = w := by
  unfold maxLen at hs
  go_enter Tryd.func12, Tryd.ntmps12
  go_wp2
  go_loop [3] (fun i => ∃ k : Nat, k ≤ s.size ∧ i = .int .i64 k ∧ Pl.zer s.data.toList = k + Pl.zer (s.data.toList.drop k)) (fun i => s.size - (intOf i).toNat)
  case atStart => exact ⟨0, Nat.zero_le _, rfl, by simp⟩
  case round =>
    obtain ⟨k, hk, rfl, hp⟩ := hrel
    have HP : Hid (Pl.zer s.data.toList = k + Pl.zer (s.data.toList.drop k)) := hp
    clear hp
    have fin : Hid (Pl.zer (s.data.toList.drop k) = 0 → (s.extract k s.size).data.toList = Pl.strip s.data.toList) := fun h0 => by
      rw [Lib.extract_data, Pl.strip, HP.out, h0, Nat.add_zero, List.take_of_length_le (by simp)]
    by_cases hlt : k < s.size
    · have hd := drop_at s k hlt
      have HS : Hid (Pl.zer (s.data.toList.drop k) = if s[k].toNat = 48 then Pl.zer (s.data.toList.drop (k + 1)) + 1 else 0) := by rw [hd]; rfl
      clear hd
      by_cases h48 : ((s[k].toNat : Int) == 48) = true
      · go_wp2
        go_round
        case rel => exact ⟨k + 1, by omega, by go_num, by rw [HP.out, HS.out, if_pos (by have := beq_iff_eq.1 h48; omega)]; omega⟩
        case measure => simp [intOf]; omega
      · have h48 : ((s[k].toNat : Int) == 48) = false := by simpa using h48
        go_wp2
        go_ret
        exact ⟨_, rfl, fin.out (by rw [HS.out, if_neg (by have := beq_eq_false_iff_ne.1 h48; omega)]), rfl⟩
    · go_wp2
      go_ret
      exact ⟨_, rfl, fin.out (by rw [List.drop_eq_nil_of_le (by simp; omega)]; rfl), rfl⟩

set_option maxHeartbeats 400000 in
theorem greater_any (z l : ByteArray) (w : World) :
    Calls Tryd.prog 13 #[.string z, .string l] w fun e w' => e = .returned (.bool (Pl.greater z.data.toList l.data.toList)) ∧ w' = w := by
  have ez : z.data.toList.length = z.size := by simp
  have el : l.data.toList.length = l.size := by simp
  by_cases h : z.size = l.size
  · have HG : Hid (Pl.greater z.data.toList l.data.toList = (!Op.bytesLess z.toList l.toList && !(z.toList == l.toList))) := by
      show Pl.greater _ _ = _
      rw [Lib.toList_data, Lib.toList_data, Pl.greater, if_pos (by omega)]
    have hb : ((z.size : Int) != (l.size : Int)) = false := by simp; omega
    clear h ez el
    go_enter Tryd.func13, Tryd.ntmps13
    go_wp2
    go_ret
    exact ⟨ret_bool HG.out.symm, rfl⟩
  · have HG : Hid (Pl.greater z.data.toList l.data.toList = decide (l.size < z.size)) := by
      show Pl.greater _ _ = _
      rw [Pl.greater, if_neg (by omega), ez, el]
    have hb : ((z.size : Int) != (l.size : Int)) = true := by simp; omega
    clear h ez el
    go_enter Tryd.func13, Tryd.ntmps13
    go_wp2
    go_ret
    exact ⟨ret_bool HG.out.symm, rfl⟩

theorem take_at (s : ByteArray) (k : Nat) (h : k < s.size) : s.data.toList.take (k + 1) = s.data.toList.take k ++ [s[k]] := by
  rw [List.take_succ_eq_append_getElem (by simpa using h)]; rfl
theorem lim_bytes : ({ data := #[49, 56, 52, 52, 54, 55, 52, 52, 48, 55, 51, 55, 48, 57, 53, 53, 49, 54, 49, 53] } : ByteArray).data.toList = Pl.lim := rfl
theorem ret_two {j k : IntKind} {a b c d : Int} (h : a = b) (h' : c = d) : Ending.returned (.tuple #[.int j a, .int k c]) = .returned (.tuple #[.int j b, .int k d]) := by rw [h, h']

/-- The scan's loop: what the digits of z spell. -/
theorem val_step (z : ByteArray) (k : Nat) (h : k < z.size) : Pl.val 0 (z.data.toList.take (k + 1)) = Pl.val 0 (z.data.toList.take k) * 10 + (z[k].toNat - 48) := by
  rw [take_at z k h, Pl.val_append, Pl.val_cons, Pl.val_nil]
theorem val_part (l : List UInt8) (k : Nat) : Pl.val 0 (l.take k) ≤ Pl.val 0 l := by
  conv => rhs; rw [← List.take_append_drop k l, Pl.val_append]
  exact Pl.val_ge _ _
theorem dig_at (z : ByteArray) (h : ∀ c ∈ z.data.toList, Pl.isDig c = true) (k : Nat) (hk : k < z.size) : 48 ≤ (z[k].toNat : Int) ∧ (z[k].toNat : Int) ≤ 57 := by
  have hm : z[k] ∈ z.data.toList := by
    have : z[k] = z.data.toList[k]'(by simpa using hk) := rfl
    rw [this]; exact List.getElem_mem _
  have := h _ hm
  simp only [Pl.isDig, Bool.and_eq_true, decide_eq_true_eq] at this
  omega

theorem hid {p : Prop} (h : p) : Hid p := h

set_option maxHeartbeats 1000000 in
theorem scan_any (s : ByteArray) (w : World) (hs : s.size ≤ maxLen) :
    Calls Tryd.prog 8 #[.string s] w fun e w' => e = .returned (.tuple #[.int .i64 (Pl.scanK s.data.toList), .int .u64 (Pl.scanM s.data.toList)]) ∧ w' = w := by
  have hp : Pl.pre s.data.toList ≤ s.size := by have := Pl.pre_le s.data.toList; simpa using this
  have et : (s.extract 0 (Pl.pre s.data.toList)).data.toList = s.data.toList.take (Pl.pre s.data.toList) := by rw [Lib.extract_data]; simp
  have hlen : s.data.toList.length = s.size := by simp
  have hm : s.size ≤ 9223372036854775807 := by unfold maxLen at hs; omega
  cases hg : Pl.greater (Pl.strip (s.data.toList.take (Pl.pre s.data.toList))) Pl.lim with
  | true =>
    obtain ⟨e1, e2⟩ := Pl.scan_two _ hg
    rw [e1, e2]
    have HT := hid et
    have HG := hid hg
    clear e1 e2 et hg hlen
    go_enter Tryd.func8, Tryd.ntmps8
    go_wp2_with fail
    refine (prefix_any s _ hs).mono ?_
    rintro e w' ⟨rfl, rfl⟩
    go_wp2_with fail
    refine (strip_any _ _ (by simp only [ByteArray.size_extract]; omega)).mono ?_
    rintro e w' ⟨z, rfl, hz, rfl⟩
    rw [HT.out] at hz
    have HZ := hid hz
    clear hz
    go_wp2_with fail
    refine (greater_any _ _ _).mono ?_
    rintro e w' ⟨rfl, rfl⟩
    rw [lim_bytes, HZ.out, HG.out]
    go_wp2_with fail
    go_ret2
    exact ⟨rfl, rfl⟩
  | false =>
    by_cases h0 : Pl.pre s.data.toList = 0 ∨ Pl.pre s.data.toList ≠ s.data.toList.length
    · obtain ⟨e1, e2⟩ := Pl.scan_zero _ hg h0
      rw [e1, e2]
      rw [hlen] at h0
      have HT := hid et
      have HG := hid hg
      clear e1 e2 et hg hlen
      by_cases h1 : Pl.pre s.data.toList = 0
      all_goals
        first
          | have hb : ((Pl.pre s.data.toList : Int) == 0) = true := by rw [h1]; rfl
          | (have hb : ((Pl.pre s.data.toList : Int) == 0) = false := by (rw [beq_eq_false_iff_ne]; omega)
             have hc : ((Pl.pre s.data.toList : Int) != (s.size : Int)) = true := by (rw [bne_iff_ne]; omega))
        clear h0 h1
        go_enter Tryd.func8, Tryd.ntmps8
        go_wp2_with fail
        refine (prefix_any s _ hs).mono ?_
        rintro e w' ⟨rfl, rfl⟩
        go_wp2_with fail
        refine (strip_any _ _ (by simp only [ByteArray.size_extract]; omega)).mono ?_
        rintro e w' ⟨z, rfl, hz, rfl⟩
        rw [HT.out] at hz
        have HZ := hid hz
        clear hz
        go_wp2_with fail
        refine (greater_any _ _ _).mono ?_
        rintro e w' ⟨rfl, rfl⟩
        rw [lim_bytes, HZ.out, HG.out]
        go_wp2_with fail
        go_ret2
        exact ⟨rfl, rfl⟩
    · have h1 : Pl.pre s.data.toList ≠ 0 := fun x => h0 (Or.inl x)
      have h2 : Pl.pre s.data.toList = s.data.toList.length := Decidable.byContradiction fun x => h0 (Or.inr x)
      obtain ⟨e1, e2, e3⟩ := Pl.scan_one _ hg h1 h2
      rw [e1]
      rw [hlen] at h2
      have hb : ((Pl.pre s.data.toList : Int) == 0) = false := by rw [beq_eq_false_iff_ne]; omega
      have hc : ((Pl.pre s.data.toList : Int) != (s.size : Int)) = false := by rw [h2]; simp
      have HD := hid (Pl.strip_dig _ (Pl.pre_all s.data.toList))
      have HT := hid et
      have HG := hid hg
      have HM := hid e2
      have HL := hid e3
      clear e1 e2 e3 et hg hlen h0 h1 h2
      go_enter Tryd.func8, Tryd.ntmps8
      go_wp2_with fail
      refine (prefix_any s _ hs).mono ?_
      rintro e w' ⟨rfl, rfl⟩
      go_wp2_with fail
      refine (strip_any _ _ (by simp only [ByteArray.size_extract]; omega)).mono ?_
      rintro e w' ⟨z, rfl, hz, rfl⟩
      rw [HT.out] at hz
      have HZ := hid hz
      have hzs : z.size ≤ 9223372036854775807 := by
        have h3 : z.size = z.data.toList.length := by simp
        rw [h3, hz]; unfold Pl.strip; unfold maxLen at hs; simp; omega
      clear hz
      go_wp2_with fail
      refine (greater_any _ _ _).mono ?_
      rintro e w' ⟨rfl, rfl⟩
      rw [lim_bytes, HZ.out, HG.out]
      go_wp2_with fail
      have HDz : Hid (∀ c ∈ z.data.toList, Pl.isDig c = true) := by have := HD.out; rw [← HZ.out] at this; exact this
      have HMz : Hid (Pl.scanM s.data.toList = Pl.val 0 z.data.toList) := by have := HM.out; rw [← HZ.out] at this; exact this
      clear HT HG HD HM hb hc hp
      go_loop [6, 7] (fun m i => ∃ k : Nat, k ≤ z.size ∧ i = .int .i64 k ∧ m = .int .u64 (Pl.val 0 (z.data.toList.take k))) (fun _ i => z.size - (intOf i).toNat)
      case atStart => exact ⟨0, Nat.zero_le _, rfl, rfl⟩
      case round =>
        obtain ⟨k, hk, rfl, rfl⟩ := hrel
        by_cases hlt : k < z.size
        · obtain ⟨d1, d2⟩ := dig_at z HDz.out k hlt
          have HS := hid (val_step z k hlt)
          have hle : Pl.val 0 (z.data.toList.take (k + 1)) ≤ 18446744073709551615 := by
            have := val_part z.data.toList (k + 1)
            rw [← HMz.out] at this
            exact Nat.le_trans this HL.out
          rw [HS.out] at hle
          generalize hv : Pl.val 0 (z.data.toList.take k) = v at *
          have HV := hid hv
          clear hv
          go_wp2
          go_round
          case rel => exact ⟨k + 1, by omega, by go_num, by rw [HS.out]; congr 1; omega⟩
          case measure => simp [intOf]; omega
        · have HE : Hid (Pl.val 0 (z.data.toList.take k) = Pl.scanM s.data.toList) := by
            show _ = _
            rw [HMz.out, List.take_of_length_le (by simp; omega)]
          go_wp2
          go_ret2
          exact ⟨ret_two rfl (by rw [HE.out]), rfl⟩
end Go.Proofs.Qxb6613608aDoor
