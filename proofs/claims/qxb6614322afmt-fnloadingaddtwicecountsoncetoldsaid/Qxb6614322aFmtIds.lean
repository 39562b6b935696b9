/- Which ids are valid: zzIDByte, zzValidID, store.ValidID. -/
import Derived.Test.Qxb6614322aFmtRows
import Derived.WalkKit
import Derived.WalkSpells
import Derived.WalkLawsBesides
import Derived.Lib.ConvBytes
import Derived.Lib.Strings
namespace Go.Proofs.Qxb6614322aFmt
open Go.RowKit

theorem hid {p : Prop} (h : p) : Hid p := h
theorem ret_bool {a b : Bool} (h : a = b) : Ending.returned (.bool a) = .returned (.bool b) := by rw [h]
theorem ret_int {k : IntKind} {a b : Int} (h : a = b) : Ending.returned (.int k a) = .returned (.int k b) := by rw [h]

/-- Is the byte one of an id's? -/
def idB (n : Int) : Bool := (decide (48 ≤ n) && decide (n ≤ 57)) || (decide (65 ≤ n) && decide (n ≤ 90)) || (decide (97 ≤ n) && decide (n ≤ 122)) || n == 45 || n == 46 || n == 95
def allB : List UInt8 → Bool
  | [] => true
  | c :: r => idB c.toNat && allB r
/-- Is the text a valid id? -/
def validB (l : List UInt8) : Bool := decide (1 ≤ l.length) && decide (l.length ≤ 64) && allB l

set_option maxHeartbeats 400000 in
theorem idbyte_any (n : Int) (w : World) : Calls Tryf.prog 17 #[.int .u8 n] w fun e w' => e = .returned (.bool (idB n)) ∧ w' = w := by
  go_enter Tryf.func17, Tryf.ntmps17
  go_wp2
  all_goals
    go_ret
    exact ⟨ret_bool (by rw [Bool.eq_iff_iff]; simp [idB]; try omega), rfl⟩

theorem drop_at (s : ByteArray) (k : Nat) (h : k < s.size) : s.data.toList.drop k = s[k] :: s.data.toList.drop (k + 1) := by
  rw [List.drop_eq_getElem_cons (by simpa using h)]; rfl
theorem all_step (s : ByteArray) (k : Nat) (h : k < s.size) : allB (s.data.toList.drop k) = (idB (s[k].toNat : Int) && allB (s.data.toList.drop (k + 1))) := by
  rw [drop_at s k h]; rfl
theorem valid_no (s : ByteArray) (h : s.size = 0 ∨ 64 < s.size) : validB s.data.toList = false := by
  have e : s.data.toList.length = s.size := by simp
  simp only [validB, e]
  rcases h with h | h
  · rw [h]; rfl
  · rw [decide_eq_false (by omega : ¬ s.size ≤ 64)]; simp
theorem valid_in (s : ByteArray) (h1 : 1 ≤ s.size) (h2 : s.size ≤ 64) : validB s.data.toList = allB s.data.toList := by
  have e : s.data.toList.length = s.size := by simp
  simp only [validB, e, decide_eq_true h1, decide_eq_true h2, Bool.true_and]

set_option maxHeartbeats 400000 in
theorem zzvalid_any (s : ByteArray) (w : World) (hs : s.size ≤ maxLen) : Calls Tryf.prog 9 #[.string s] w fun e w' => e = .returned (.bool (validB s.data.toList)) ∧ w' = w := by
  unfold maxLen at hs
  by_cases h0 : s.size = 0
  · rw [valid_no s (Or.inl h0)]
    have hb : ((s.size : Int) == 0) = true := by rw [h0]; rfl
    clear h0
    go_enter Tryf.func9, Tryf.ntmps9
    go_wp2
    go_ret
    exact ⟨rfl, rfl⟩
  have hb : ((s.size : Int) == 0) = false := by rw [beq_eq_false_iff_ne]; omega
  by_cases h64 : 64 < s.size
  · rw [valid_no s (Or.inr h64)]
    clear h0
    go_enter Tryf.func9, Tryf.ntmps9
    go_wp2
    go_ret
    exact ⟨rfl, rfl⟩
  rw [valid_in s (by omega) (by omega)]
  have hle : s.size ≤ 64 := by omega
  clear h0 h64
  go_enter Tryf.func9, Tryf.ntmps9
  go_wp2
  go_loop [4] (fun i => ∃ k : Nat, k ≤ s.size ∧ i = .int .i64 k ∧ allB s.data.toList = allB (s.data.toList.drop k)) (fun i => s.size - (intOf i).toNat)
  case atStart => exact ⟨0, Nat.zero_le _, rfl, by simp⟩
  case round =>
    obtain ⟨k, hk, rfl, hp⟩ := hrel
    have HP := hid hp
    clear hp
    by_cases hlt : k < s.size
    · have HS := hid (all_step s k hlt)
      cases hd : idB (s[k].toNat : Int) with
      | true =>
        have HD := hid hd
        clear hd
        go_wp2_with (go_at_call 17; refine (idbyte_any _ _).mono ?_; rintro e w' ⟨rfl, rfl⟩; rw [HD.out])
        go_round
        case rel => exact ⟨k + 1, by omega, by go_num, by rw [HP.out, HS.out, HD.out, Bool.true_and]⟩
        case measure => simp [intOf]; omega
      | false =>
        have HD := hid hd
        clear hd
        go_wp2_with (go_at_call 17; refine (idbyte_any _ _).mono ?_; rintro e w' ⟨rfl, rfl⟩; rw [HD.out])
        go_ret
        exact ⟨ret_bool (by rw [HP.out, HS.out, HD.out, Bool.false_and]), rfl⟩
    · go_wp2
      go_ret
      exact ⟨ret_bool (by rw [HP.out, List.drop_eq_nil_of_le (by simp; omega)]; rfl), rfl⟩

/-- store.ValidID: over a copy of the bytes. -/
theorem conv_any (s : ByteArray) (w : World) : (convert 9 23 (.string s)).run Tryf.prog w = .ok (.slice (some ⟨w.heap.size, 0, none⟩) s.size (grownCap w s.size 0 5)) (Lib.bytesWorld w 5 s) := Lib.run_convert_string_bytes w 9 23 5 s Tryf.underlying9 Tryf.underlying23 Tryf.underlying5
theorem bytes_below (w : World) (s : ByteArray) : Below w.heap.size w (Lib.bytesWorld w 5 s) := ⟨rfl, rfl, rfl, by rw [Lib.bytesWorld_size]; omega, fun j hj => Lib.bytesWorld_at_old w 5 s j hj⟩
theorem byte_at (w : World) (s : ByteArray) (k : Nat) (h : k < s.size) : (Lib.bytesWorld w 5 s).cell? ⟨w.heap.size, k, none⟩ = some (.int .u8 (s[k].toNat : Int)) := by
  rw [Lib.bytesWorld_cell w 5 s k h]
  have : s.data.toList.getD k 0 = s[k] := by
    rw [List.getD_eq_getElem?_getD, List.getElem?_eq_getElem (by simpa using h)]; rfl
  rw [this]

set_option maxHeartbeats 1000000 in
theorem valid_any (s : ByteArray) (w : World) (hs : s.size ≤ maxLen) : Calls Tryf.prog 24 #[.string s] w fun e w' => e = .returned (.bool (validB s.data.toList)) ∧ Below w.heap.size w w' := by
  unfold maxLen at hs
  by_cases h0 : s.size = 0
  · rw [valid_no s (Or.inl h0)]
    have hb : (s.size : Int) < 1 := by omega
    clear h0
    go_enter Tryf.func24, Tryf.ntmps24
    go_wp2
    go_ret
    exact ⟨rfl, Below.refl _ _⟩
  have hb : ¬ (s.size : Int) < 1 := by omega
  by_cases h64 : 64 < s.size
  · rw [valid_no s (Or.inr h64)]
    clear h0
    go_enter Tryf.func24, Tryf.ntmps24
    go_wp2
    go_ret
    exact ⟨rfl, Below.refl _ _⟩
  rw [valid_in s (by omega) (by omega)]
  have hle : s.size ≤ 64 := by omega
  have hcv := conv_any s
  have HB := hid (bytes_below w s)
  have HA := hid (byte_at w s)
  clear h0 h64
  go_enter Tryf.func24, Tryf.ntmps24
  go_wp2
  generalize Lib.bytesWorld w 5 s = W at *
  clear hcv
  go_loop [16] (fun i => ∃ k : Nat, k ≤ s.size ∧ i = .int .i64 k ∧ allB s.data.toList = allB (s.data.toList.drop k)) (fun i => s.size - (intOf i).toNat)
  case atStart => exact ⟨0, Nat.zero_le _, rfl, by simp⟩
  case round =>
    obtain ⟨k, hk, rfl, hp⟩ := hrel
    have HP := hid hp
    clear hp
    by_cases hlt : k < s.size
    · have HS := hid (all_step s k hlt)
      have hcell := HA.out k hlt
      clear HA
      go_wp2
      all_goals first
        | (go_ret
           have hd : idB (s[k].toNat : Int) = false := by (rw [Bool.eq_false_iff]; intro hq; simp [idB] at hq; simp at *; omega)
           exact ⟨ret_bool (by rw [HP.out, HS.out, hd, Bool.false_and]), HB.out⟩)
        | (go_round
           case rel =>
             have hd : idB (s[k].toNat : Int) = true := by (simp [idB]; simp at *; omega)
             exact ⟨k + 1, by omega, by go_num, by rw [HP.out, HS.out, hd, Bool.true_and]⟩
           case measure => simp [intOf]; omega)
    · go_wp2
      go_ret
      exact ⟨ret_bool (by rw [HP.out, List.drop_eq_nil_of_le (by simp; omega)]; rfl), HB.out⟩
end Go.Proofs.Qxb6614322aFmt
