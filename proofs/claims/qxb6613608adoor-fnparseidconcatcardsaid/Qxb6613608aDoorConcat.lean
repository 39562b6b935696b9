/- The walk of FnParseIDConcat. -/
import Derived.Test.Qxb6613608aDoorModel
namespace Go.Proofs.Qxb6613608aDoor
open Go.RowKit

theorem cat_data (a b : ByteArray) : (a ++ b : ByteArray).data.toList = a.data.toList ++ b.data.toList := by
  rw [ByteArray.data_append]; simp

/-- The loop's bound: what stands in w at every round fits an int64. -/
theorem pow_bd (A B n k : Nat) (hk : k ≤ n) (h : A * 10 ^ n + B ≤ 9223372036854775807) : A * 10 ^ k ≤ 9223372036854775807 := by
  have : A * 10 ^ k ≤ A * 10 ^ n := Nat.mul_le_mul_left _ (Nat.pow_le_pow_right (by omega) hk)
  omega
theorem pow_next (A k : Nat) : A * 10 ^ (k + 1) = A * 10 ^ k * 10 := by rw [Nat.pow_succ, Nat.mul_assoc]

set_option maxHeartbeats 4000000 in
theorem concat_core (s t : ByteArray) (w : World) (hm : s.size + t.size ≤ 1048576) (hs5 : s.size ≤ 524288) (ht5 : t.size ≤ 524288) (ev er : Value) (h0 : w.cell? ⟨0, 0, none⟩ = some ev) (hev : ev = .nilIface ∨ ∃ te pe, ev = .iface te pe)
    (h1 : w.cell? ⟨1, 0, none⟩ = some er) (her : er = .nilIface ∨ ∃ te pe, er = .iface te pe) :
    Calls Tryd.prog 4 #[.string s, .string t] w fun e w' => e = .returned (.bool true) ∧ Below w.heap.size w w' := by
  have hs : s.size ≤ maxLen := by unfold maxLen; omega
  have ht : t.size ≤ maxLen := by unfold maxLen; omega
  have hst : (s ++ t).size ≤ maxLen := by rw [ByteArray.size_append]; unfold maxLen; omega
  have hl2 : (s ++ t).size ≤ 281474976710656 := by rw [ByteArray.size_append]; omega
  have hd : decide (s.size + t.size ≤ 1048576) = true := decide_eq_true hm
  go_enter Tryd.func4, Tryd.ntmps4
  go_wp2_with fail
  refine (bytes2_any s t _ hs ht).mono ?_
  rintro e w' ⟨rfl, rfl⟩
  rw [hd]
  clear hd
  go_wp2_with fail
  refine (zz_any (s ++ t) _ hl2 ev er h0 hev h1 her).mono ?_
  rintro e w1 ⟨rfl, b1⟩
  have c0 : w1.cell? ⟨0, 0, none⟩ = some ev := (b1.cell (Lib.lt_of_cell h0)).trans h0
  have c1 : w1.cell? ⟨1, 0, none⟩ = some er := (b1.cell (Lib.lt_of_cell h1)).trans h1
  generalize hp : Pl.pid (s ++ t).data.toList = p
  have Hp := hid hp
  clear hp h0 h1
  have B1 := hid b1
  clear b1
  go_wp2_with fail
  refine (zz_any s _ (by omega) ev er c0 hev c1 her).mono ?_
  rintro e w2 ⟨rfl, b2⟩
  have e0 : w2.cell? ⟨0, 0, none⟩ = some ev := (b2.cell (Lib.lt_of_cell c0)).trans c0
  have e1 : w2.cell? ⟨1, 0, none⟩ = some er := (b2.cell (Lib.lt_of_cell c1)).trans c1
  generalize hq : Pl.pid s.data.toList = q
  have Hq := hid hq
  clear hq c0 c1
  have B2 : Hid (Below w'.heap.size w' w2) := B1.out.trans (b2.mono B1.out.size)
  clear b2 B1
  go_wp2_with fail
  refine (zz_any t _ (by omega) ev er e0 hev e1 her).mono ?_
  rintro e w3 ⟨rfl, b3⟩
  generalize hr : Pl.pid t.data.toList = r
  have Hr := hid hr
  clear hr e0 e1
  have B3 : Hid (Below w'.heap.size w' w3) := B2.out.trans (b3.mono B2.out.size)
  clear b3 B2 hev her
  go_wp2_with fail
  refine (model_any (s ++ t) _ hst).mono ?_
  rintro e w4 ⟨rfl, rfl⟩
  rw [Hp.out]
  go_wp2_with fail
  refine (scan_any s _ hs).mono ?_
  rintro e w5 ⟨rfl, rfl⟩
  generalize hka : Pl.scanK s.data.toList = KA
  generalize hma : Pl.scanM s.data.toList = MA
  have HKA := hid hka
  have HMA := hid hma
  clear hka hma
  go_wp2_with fail
  refine (scan_any t _ ht).mono ?_
  rintro e w6 ⟨rfl, rfl⟩
  generalize hkb : Pl.scanK t.data.toList = KB
  generalize hmb : Pl.scanM t.data.toList = MB
  have HKB := hid hkb
  have HMB := hid hmb
  clear hkb hmb
  go_wp2_with fail
  refine (scan_any (s ++ t) _ hst).mono ?_
  rintro e w7 ⟨rfl, rfl⟩
  generalize hkc : Pl.scanK (s ++ t).data.toList = KC
  generalize hmc : Pl.scanM (s ++ t).data.toList = MC
  have HKC := hid hkc
  have HMC := hid hmc
  clear hkc hmc
  by_cases hA : KA = 1
  case neg =>
    have g1 : ((KA : Int) != 1) = true := by rw [bne_iff_ne]; omega
    clear hA
    go_wp2_with fail
    go_ret
    exact ⟨rfl, B3.out⟩
  subst hA
  by_cases hB : KB = 1
  case neg =>
    have g1 : ((KB : Int) != 1) = true := by rw [bne_iff_ne]; omega
    clear hB
    go_wp2_with fail
    go_ret
    exact ⟨rfl, B3.out⟩
  subst hB
  by_cases hC : KC = 1
  case neg =>
    have g1 : ((KC : Int) != 1) = true := by rw [bne_iff_ne]; omega
    clear hC
    go_wp2_with fail
    go_ret
    exact ⟨rfl, B3.out⟩
  subst hC
  by_cases hM : (9223372036854775807 : Int) < (MC : Int)
  case pos =>
    have g1 : decide ((9223372036854775807 : Int) < (MC : Int)) = true := by simpa using hM
    clear hM
    go_wp2_with fail
    go_ret
    exact ⟨rfl, B3.out⟩
  have g1 : decide ((9223372036854775807 : Int) < (MC : Int)) = false := by simpa using hM
  have hcat : MC = MA * 10 ^ t.size + MB := by
    have h := Pl.concat_val s.data.toList t.data.toList HKA.out HKB.out (by rw [← cat_data]; exact HKC.out)
    rw [← cat_data, HMC.out, HMA.out, HMB.out] at h
    simpa using h
  have hle := Pl.concat_le s.data.toList t.data.toList HKA.out HKB.out (by rw [← cat_data]; exact HKC.out) (by rw [← cat_data, HMC.out]; omega)
  rw [HMA.out, HMB.out] at hle
  obtain rfl : p = (MC : Int) := by rw [← Hp.out, Pl.pid_digits _ HKC.out (by rw [HMC.out]; omega), HMC.out]
  obtain rfl : q = (MA : Int) := by rw [← Hq.out, Pl.pid_digits _ HKA.out (by rw [HMA.out]; omega), HMA.out]
  obtain rfl : r = (MB : Int) := by rw [← Hr.out, Pl.pid_digits _ HKB.out (by rw [HMB.out]; omega), HMB.out]
  have HC := hid hcat
  have HL := hid hM
  obtain ⟨la, lb⟩ := hle
  have la' : (MA : Int) ≤ 9223372036854775807 := by omega
  have lb' : (MB : Int) ≤ 9223372036854775807 := by omega
  clear hcat hM la lb Hp Hq Hr HKA HMA HKB HMB HKC HMC
  by_cases hz : MA = 0
  case pos =>
    subst hz
    have hE := HC.out
    simp only [Nat.zero_mul, Nat.zero_add] at hE
    subst hE
    go_wp2_with fail
    go_ret
    exact ⟨by simp, B3.out⟩
  have g2 : ((MA : Int) == 0) = false := by rw [beq_eq_false_iff_ne]; omega
  clear hz
  go_wp2_with fail
  go_loop [15, 16] (fun x i => ∃ k : Nat, k ≤ t.size ∧ i = .int .i64 k ∧ x = .int .i64 (MA * 10 ^ k : Nat)) (fun _ i => t.size - (intOf i).toNat)
  case atStart => exact ⟨0, Nat.zero_le _, rfl, by simp⟩
  case round =>
    obtain ⟨k, hk, rfl, rfl⟩ := hrel
    have HN := hid (pow_next MA k)
    have hb1 := pow_bd MA MB t.size k hk (by have := HL.out; have := HC.out; omega)
    by_cases hlt : k < t.size
    · have hb2 := pow_bd MA MB t.size (k + 1) hlt (by have := HL.out; have := HC.out; omega)
      rw [HN.out] at hb2
      generalize MA * 10 ^ k = v at *
      have hv : (v : Int) * 10 ≤ 9223372036854775807 := by omega
      clear hb1 hb2
      go_wp2
      go_round
      case rel => exact ⟨k + 1, by omega, by go_num, by rw [HN.out]; go_num⟩
      case measure => simp [intOf]; omega
    · obtain rfl : k = t.size := by omega
      generalize MA * 10 ^ t.size = v at *
      have hsum : (v : Int) + (MB : Int) ≤ 9223372036854775807 := by have := HL.out; have := HC.out; omega
      have HE : Hid ((MC : Int) = (v : Int) + (MB : Int)) := by show _ = _; have := HC.out; omega
      clear hb1
      go_wp2
      go_ret
      exact ⟨ret_bool (by rw [HE.out]; simp), B3.out⟩

theorem concat_any (s t : ByteArray) (w : World) (hs : s.size ≤ maxLen) (ht : t.size ≤ maxLen) (ev er : Value) (h0 : w.cell? ⟨0, 0, none⟩ = some ev) (hev : ev = .nilIface ∨ ∃ te pe, ev = .iface te pe)
    (h1 : w.cell? ⟨1, 0, none⟩ = some er) (her : er = .nilIface ∨ ∃ te pe, er = .iface te pe) :
    Calls Tryd.prog 4 #[.string s, .string t] w fun e w' => e = .returned (.bool true) ∧ Below w.heap.size w w' := by
  by_cases hm : s.size + t.size ≤ 1048576
  · by_cases hs5 : s.size ≤ 524288
    · by_cases ht5 : t.size ≤ 524288
      · exact concat_core s t w hm hs5 ht5 ev er h0 hev h1 her
      · have hd : decide (s.size + t.size ≤ 1048576) = true := decide_eq_true hm
        clear h0 h1 hev her
        go_enter Tryd.func4, Tryd.ntmps4
        go_wp2_with fail
        refine (bytes2_any s t _ hs ht).mono ?_
        rintro e w' ⟨rfl, rfl⟩
        rw [hd]
        go_wp2_with fail
        go_ret
        exact ⟨rfl, Below.refl _ _⟩
    · have hd : decide (s.size + t.size ≤ 1048576) = true := decide_eq_true hm
      clear h0 h1 hev her
      go_enter Tryd.func4, Tryd.ntmps4
      go_wp2_with fail
      refine (bytes2_any s t _ hs ht).mono ?_
      rintro e w' ⟨rfl, rfl⟩
      rw [hd]
      go_wp2_with fail
      go_ret
      exact ⟨rfl, Below.refl _ _⟩
  · have hd : decide (s.size + t.size ≤ 1048576) = false := decide_eq_false hm
    clear h0 h1 hev her
    go_enter Tryd.func4, Tryd.ntmps4
    go_wp2_with fail
    refine (bytes2_any s t _ hs ht).mono ?_
    rintro e w' ⟨rfl, rfl⟩
    rw [hd]
    go_wp2_with fail
    go_ret
    exact ⟨rfl, Below.refl _ _⟩
end Go.Proofs.Qxb6613608aDoor
