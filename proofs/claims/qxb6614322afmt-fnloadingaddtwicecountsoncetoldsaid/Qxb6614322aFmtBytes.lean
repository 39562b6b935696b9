/- The law's guards: zzStringsBytes, zzAddInputBytes, zzItemCount, zzBytes. -/
import Derived.Test.Qxb6614322aFmtRead
namespace Go.Proofs.Qxb6614322aFmt
open Go.RowKit Go.Extern.Stop Go.Stop Go.Extern Go.Maps

set_option maxHeartbeats 1000000 in
theorem strings_bytes (a : Option Addr) (l c : Nat) (s : Nat → ByteArray) (z : Int) (w : World) (hl : l ≤ 1048576) (h : CellsIn w a l (fun i => .string (s i))) :
    Calls Tryf.prog 16 #[.int .i64 z, .slice a l c] w fun e w' => (∃ r, e = .returned (.int .i64 r)) ∧ w' = w := by
  have H := hid h
  clear h
  go_enter Tryf.func16, Tryf.ntmps16
  go_wp2_with fail
  go_loop [5, 6] (fun n i => (∃ z, n = .int .i64 z) ∧ ∃ k : Nat, k ≤ l ∧ i = .int .i64 k) (fun _ i => l - (intOf i).toNat)
  case atStart => exact ⟨⟨_, rfl⟩, 0, Nat.zero_le _, rfl⟩
  case round =>
    obtain ⟨⟨z, rfl⟩, k, hk, rfl⟩ := hrel
    by_cases hlt : k < l
    · obtain ⟨b, off, ha, h1, h2⟩ := H.out k hlt
      subst ha
      clear H
      go_wp2_with fail
      all_goals first
        | (go_ret
           exact ⟨⟨_, rfl⟩, rfl⟩)
        | (go_round
           case rel => exact ⟨⟨_, rfl⟩, k + 1, by omega, by go_num⟩
           case measure => simp [intOf]; omega)
    · go_wp2_with fail
      go_ret
      exact ⟨⟨_, rfl⟩, rfl⟩

set_option maxHeartbeats 1000000 in
theorem item_count (a0 a1 a2 a3 a4 a5 : Option Addr) (l0 l1 l2 l3 l4 l5 c0 c1 c2 c3 c4 c5 : Nat) (w : World) (h0 : l0 ≤ 65536) (h1 : l1 ≤ 65536) (h2 : l2 ≤ 65536) (h3 : l3 ≤ 65536) (h4 : l4 ≤ 65536) (h5 : l5 ≤ 65536) :
    Calls Tryf.prog 6 #[.slice a0 l0 c0, .slice a1 l1 c1, .slice a2 l2 c2, .slice a3 l3 c3, .slice a4 l4 c4, .slice a5 l5 c5] w fun e w' => (∃ N : Nat, N ≤ 65536 ∧ e = .returned (.int .i64 N)) ∧ w' = w := by
  go_enter Tryf.func6, Tryf.ntmps6
  go_wp2_with fail
  all_goals
    go_ret
    exact ⟨⟨_, by assumption, rfl⟩, rfl⟩

set_option maxHeartbeats 1000000 in
theorem input_bytes (I : Inp) (w : World) (hI : I.At w) (hS : I.Small) :
    Calls Tryf.prog 5 #[.slice I.a0 I.l0 I.c0, .slice I.a1 I.l1 I.c1, .slice I.a2 I.l2 I.c2, .slice I.a3 I.l3 I.c3, .slice I.a4 I.l4 I.c4, .slice I.a5 I.l5 I.c5] w fun e w' => (∃ r, e = .returned (.int .i64 r)) ∧ w' = w := by
  have HI := hid hI
  have HS := hid hS
  have C0 := fun z => strings_bytes I.a0 I.l0 I.c0 I.s0 z w hS.m0 hI.h0
  have C1 := fun z => strings_bytes I.a1 I.l1 I.c1 I.s1 z w hS.m1 hI.h1
  have hl4 := hS.m4
  have hl5 := hS.m5
  clear hI hS
  go_enter Tryf.func5, Tryf.ntmps5
  go_wp2_with fail
  refine (C0 _).mono ?_
  rintro e w' ⟨⟨z0, rfl⟩, rfl⟩
  by_cases hz0 : (1048576 : Int) < z0
  · go_wp2_with fail
    go_ret
    exact ⟨⟨_, rfl⟩, rfl⟩
  go_wp2_with fail
  refine (C1 _).mono ?_
  rintro e w' ⟨⟨z1, rfl⟩, rfl⟩
  by_cases hz1 : (1048576 : Int) < z1
  · go_wp2_with fail
    go_ret
    exact ⟨⟨_, rfl⟩, rfl⟩
  go_wp2_with fail
  clear C0 C1
  go_loop [13, 14] (fun n i => (∃ z, n = .int .i64 z) ∧ ∃ k : Nat, k ≤ I.l4 ∧ i = .int .i64 k) (fun _ i => I.l4 - (intOf i).toNat)
  case atStart => exact ⟨⟨_, rfl⟩, 0, Nat.zero_le _, rfl⟩
  case round =>
    obtain ⟨⟨z, rfl⟩, k, hk, rfl⟩ := hrel
    by_cases hlt : k < I.l4
    · obtain ⟨b, off, ha, h1, h2⟩ := HI.out.h4 k hlt
      have C4 := fun z => strings_bytes (I.ca k) (I.cl k) (I.cc k) (I.cs k) z _ (HS.out.m4e k hlt) (HI.out.h4e k hlt)
      rw [ha]
      go_wp2_with fail
      refine (C4 _).mono ?_
      rintro e w' ⟨⟨z4, rfl⟩, rfl⟩
      rw [← ha]
      by_cases hz4 : (1048576 : Int) < z4
      · go_wp2_with fail
        go_ret
        exact ⟨⟨_, rfl⟩, rfl⟩
      go_wp2_with fail
      go_round
      case rel => exact ⟨⟨_, rfl⟩, k + 1, by omega, by go_num⟩
      case measure => simp [intOf]; omega
    · go_wp2_with fail
      go_loop [13, 15] (fun n i => (∃ z, n = .int .i64 z) ∧ ∃ k : Nat, k ≤ I.l5 ∧ i = .int .i64 k) (fun _ i => I.l5 - (intOf i).toNat)
      case atStart => exact ⟨⟨_, rfl⟩, 0, Nat.zero_le _, rfl⟩
      case round =>
        obtain ⟨⟨z, rfl⟩, k', hk', rfl⟩ := hrel
        by_cases hlt' : k' < I.l5
        · obtain ⟨b, off, ha, h1, h2⟩ := HI.out.h5 k' hlt'
          rw [ha]
          go_wp2_with fail
          all_goals try rw [← ha]
          all_goals first
            | (go_ret
               exact ⟨⟨_, rfl⟩, rfl⟩)
            | (go_round
               case rel => exact ⟨⟨_, rfl⟩, k' + 1, by omega, by go_num⟩
               case measure => simp [intOf]; omega)
        · go_wp2_with fail
          go_ret
          exact ⟨⟨_, rfl⟩, rfl⟩
end Go.Proofs.Qxb6614322aFmt
