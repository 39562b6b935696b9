/- zzBytes: where it says yes, everything is small. -/
import Derived.Test.Qxb6614322aFmtBytes
namespace Go.Proofs.Qxb6614322aFmt
open Go.RowKit Go.Extern.Stop Go.Stop Go.Extern Go.Maps

def SmallSays (I : Inp) (e : Ending) : Prop := ∃ b, e = .returned (.bool b) ∧ (b = true → I.Small)
theorem SmallSays.no {I : Inp} : SmallSays I (.returned (.bool false)) := ⟨false, rfl, fun h => by cases h⟩
theorem SmallSays.yes {I : Inp} (h : I.Small) : SmallSays I (.returned (.bool true)) := ⟨true, rfl, fun _ => h⟩
theorem upto_succ {p : Nat → Prop} {k : Nat} (h : ∀ j, j < k → p j) (hk : p k) : ∀ j, j < k + 1 → p j := fun j hj => by
  rcases Nat.lt_succ_iff_lt_or_eq.1 hj with h' | rfl
  · exact h j h'
  · exact hk

set_option maxRecDepth 100000 in
set_option maxHeartbeats 4000000 in
theorem bytes_small (I : Inp) (w : World) (hI : I.At w) :
    Calls Tryf.prog 4 #[.slice I.a0 I.l0 I.c0, .slice I.a1 I.l1 I.c1, .slice I.a2 I.l2 I.c2, .slice I.a3 I.l3 I.c3, .slice I.a4 I.l4 I.c4, .slice I.a5 I.l5 I.c5] w fun e w' => SmallSays I e ∧ w' = w := by
  have HI := hid hI
  clear hI
  go_enter Tryf.func4, Tryf.ntmps4
  go_wp2_with fail
  all_goals try (go_ret; exact ⟨SmallSays.no, rfl⟩)
  have m0 : I.l0 ≤ 1048576 := by omega
  go_loop [13, 14] (fun n i => (∃ z, n = .int .i64 z) ∧ ∃ k : Nat, k ≤ I.l0 ∧ i = .int .i64 k ∧ Hid (∀ j, j < k → (I.s0 j).size ≤ 1048576)) (fun _ i => I.l0 - (intOf i).toNat)
  case atStart => exact ⟨⟨_, rfl⟩, 0, Nat.zero_le _, rfl, fun j hj => absurd hj (Nat.not_lt_zero _)⟩
  case round =>
    obtain ⟨⟨z, rfl⟩, k, hk, rfl, hz⟩ := hrel
    by_cases hlt : k < I.l0
    · obtain ⟨b, off, ha, h1, h2⟩ := HI.out.h0 k hlt
      rw [ha]
      go_wp2_with fail
      all_goals try rw [← ha]
      all_goals first
        | (go_ret; exact ⟨SmallSays.no, rfl⟩)
        | (go_round
           case rel => exact ⟨⟨_, rfl⟩, k + 1, by omega, by go_num, upto_succ hz.out (by omega)⟩
           case measure => simp [intOf]; omega)
    · have z0 : Hid (∀ i, i < I.l0 → (I.s0 i).size ≤ 1048576) := fun i hi => hz.out i (by omega)
      clear hz
      go_wp2_with fail
      all_goals try (go_ret; exact ⟨SmallSays.no, rfl⟩)
      have m1 : I.l1 ≤ 1048576 := by omega
      clear hk hlt
      go_loop [13, 15] (fun n i => (∃ z, n = .int .i64 z) ∧ ∃ k : Nat, k ≤ I.l1 ∧ i = .int .i64 k ∧ Hid (∀ j, j < k → (I.s1 j).size ≤ 1048576)) (fun _ i => I.l1 - (intOf i).toNat)
      case atStart => exact ⟨⟨_, rfl⟩, 0, Nat.zero_le _, rfl, fun j hj => absurd hj (Nat.not_lt_zero _)⟩
      case round =>
        obtain ⟨⟨z, rfl⟩, k1, hk, rfl, hz⟩ := hrel
        by_cases hlt : k1 < I.l1
        · obtain ⟨b, off, ha, h1, h2⟩ := HI.out.h1 k1 hlt
          rw [ha]
          go_wp2_with fail
          all_goals try rw [← ha]
          all_goals first
            | (go_ret; exact ⟨SmallSays.no, rfl⟩)
            | (go_round
               case rel => exact ⟨⟨_, rfl⟩, k1 + 1, by omega, by go_num, upto_succ hz.out (by omega)⟩
               case measure => simp [intOf]; omega)
        · have z1 : Hid (∀ i, i < I.l1 → (I.s1 i).size ≤ 1048576) := fun i hi => hz.out i (by omega)
          clear hz
          go_wp2_with fail
          all_goals try (go_ret; exact ⟨SmallSays.no, rfl⟩)
          have m2 : I.l2 ≤ 1048576 := by omega
          have m3 : I.l3 ≤ 1048576 := by omega
          have m4 : I.l4 ≤ 1048576 := by omega
          clear hk hlt
          go_loop [13, 16] (fun n i => (∃ z, n = .int .i64 z) ∧ ∃ k : Nat, k ≤ I.l4 ∧ i = .int .i64 k ∧ Hid (∀ j, j < k → I.cl j ≤ 1048576 ∧ ∀ q, q < I.cl j → (I.cs j q).size ≤ 1048576)) (fun _ i => I.l4 - (intOf i).toNat)
          case atStart => exact ⟨⟨_, rfl⟩, 0, Nat.zero_le _, rfl, fun j hj => absurd hj (Nat.not_lt_zero _)⟩
          case round =>
            obtain ⟨⟨z, rfl⟩, k4, hk4, rfl, hz⟩ := hrel
            by_cases hlt4 : k4 < I.l4
            · obtain ⟨b, off, ha, h1, h2⟩ := HI.out.h4 k4 hlt4
              rw [ha]
              go_wp2_with fail
              all_goals try (go_ret; exact ⟨SmallSays.no, rfl⟩)
              have m4k : I.cl k4 ≤ 1048576 := by omega
              go_loop [13, 17] (fun n i => (∃ z, n = .int .i64 z) ∧ ∃ k : Nat, k ≤ I.cl k4 ∧ i = .int .i64 k ∧ Hid (∀ j, j < k → (I.cs k4 j).size ≤ 1048576)) (fun _ i => I.cl k4 - (intOf i).toNat)
              case atStart => exact ⟨⟨_, rfl⟩, 0, Nat.zero_le _, rfl, fun j hj => absurd hj (Nat.not_lt_zero _)⟩
              case round =>
                obtain ⟨⟨z, rfl⟩, q, hq, rfl, hzq⟩ := hrel
                by_cases hlq : q < I.cl k4
                · obtain ⟨b', off', ha', h1', h2'⟩ := HI.out.h4e k4 hlt4 q hlq
                  simp only [ha'] at h2
                  go_wp2_with fail
                  all_goals first
                    | (go_ret; exact ⟨SmallSays.no, rfl⟩)
                    | (go_round
                       case rel => exact ⟨⟨_, rfl⟩, q + 1, by omega, by go_num, upto_succ hzq.out (by omega)⟩
                       case measure => simp [intOf]; omega)
                · have hzz : Hid (∀ j, j < I.cl k4 → (I.cs k4 j).size ≤ 1048576) := fun i hi => hzq.out i (by omega)
                  clear hzq
                  go_wp2_with fail
                  all_goals try rw [← ha]
                  go_round
                  case rel => exact ⟨⟨_, rfl⟩, k4 + 1, by omega, by go_num, upto_succ hz.out ⟨m4k, hzz.out⟩⟩
                  case measure => simp [intOf]; omega
            · have z4 : Hid (∀ i, i < I.l4 → I.cl i ≤ 1048576 ∧ ∀ q, q < I.cl i → (I.cs i q).size ≤ 1048576) := fun i hi => hz.out i (by omega)
              clear hz
              go_wp2_with fail
              all_goals try (go_ret; exact ⟨SmallSays.no, rfl⟩)
              have m5 : I.l5 ≤ 1048576 := by omega
              clear hk4 hlt4
              go_loop [13, 18] (fun n i => (∃ z, n = .int .i64 z) ∧ ∃ k : Nat, k ≤ I.l5 ∧ i = .int .i64 k ∧ Hid (∀ j, j < k → I.kl j ≤ 1048576)) (fun _ i => I.l5 - (intOf i).toNat)
              case atStart => exact ⟨⟨_, rfl⟩, 0, Nat.zero_le _, rfl, fun j hj => absurd hj (Nat.not_lt_zero _)⟩
              case round =>
                obtain ⟨⟨z, rfl⟩, k5, hk5, rfl, hz⟩ := hrel
                by_cases hlt5 : k5 < I.l5
                · obtain ⟨b, off, ha, h1, h2⟩ := HI.out.h5 k5 hlt5
                  rw [ha]
                  go_wp2_with fail
                  all_goals try rw [← ha]
                  all_goals first
                    | (go_ret; exact ⟨SmallSays.no, rfl⟩)
                    | (go_round
                       case rel => exact ⟨⟨_, rfl⟩, k5 + 1, by omega, by go_num, upto_succ hz.out (by omega)⟩
                       case measure => simp [intOf]; omega)
                · have z5 : Hid (∀ i, i < I.l5 → I.kl i ≤ 1048576) := fun i hi => hz.out i (by omega)
                  clear hz
                  go_wp2_with fail
                  go_ret
                  exact ⟨SmallSays.yes ⟨m0, m1, m2, m3, m4, m5, z0.out, z1.out, fun i hi => (z4.out i hi).1, fun i hi => (z4.out i hi).2, z5.out⟩, rfl⟩
end Go.Proofs.Qxb6614322aFmt
