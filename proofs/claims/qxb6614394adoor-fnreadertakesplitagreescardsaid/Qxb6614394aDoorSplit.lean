/- The walk of FnReaderTakeSplitAgrees. -/
import Derived.Test.Qxb6614394aDoorEnd
namespace Go.Proofs.Qxb6614394aDoor
open Go.RowKit

set_option maxHeartbeats 2000000 in
theorem spl_lt (x off len cap a b : Nat) (zs : List Int) (w : World) (hlen : len ≤ 1048576) (hcap : len ≤ cap) (hc : ∀ i, i < len → w.cell? ⟨x, off + i, none⟩ = some (.int .u8 (zs[i]?.getD 0))) (hb : x < w.heap.size) (hab : a + b < len) :
    Calls Tryd.prog 3 #[.slice (some ⟨x, off, none⟩) len cap, .int .i64 a, .int .i64 b] w fun e w' => e = .returned (.bool true) ∧ Below w.heap.size w w' := by
  have H6 := hid (clone_pos x off len cap zs w hlen hc hb)
  have hn := eql_nil
  have HC := hid hc
  have g1 : ¬ len = a := by omega
  have g2 : ¬ len - a = b := by omega
  have g3 : ¬ len = a + b := by omega
  have g4 : 0 < len - a - b := by omega
  have g5 : 0 < len - (a + b) := by omega
  clear hc
  go_enter Tryd.func3, Tryd.ntmps3
  go_wp2_with (first | (go_at_call 6; refine H6.out.mono ?_; rintro e w1 ⟨rfl, r1, b1, z1⟩; clear H6) | (go_at_call 5; go_in) | (go_at_call 7; go_in) | (go_at_call 8; go_in) | (go_at_call 13; go_in) | (go_at_call 9; go_in) | (go_at_call 10; go_in) | (go_at_call 14; go_in))
  refine (same_pos w.heap.size 0 x off a _ _ (fun i => zs[i]?.getD 0) _ (by omega) ?_ ?_).mono ?_
  · intro i hi
    rw [Nat.zero_add]
    exact ((((r1.alloc _).alloc _).alloc _).alloc _).cell (by omega)
  · intro i hi
    exact cell_in HC.out hb ((((b1.alloc (by omega) _).alloc (by simp; omega) _).alloc (by simp; omega) _).alloc (by simp; omega) _) (by omega)
  rintro e w2 ⟨rfl, q, rfl⟩
  go_wp2_with fail
  refine (same_pos w.heap.size a x (off + a) b _ _ (fun i => zs[a + i]?.getD 0) _ (by omega) ?_ ?_).mono ?_
  · intro i hi
    exact (row_drewN q ((((r1.alloc _).alloc _).alloc _).alloc _)).cell (by omega)
  · intro i hi
    rw [Nat.add_assoc]
    exact cell_in HC.out hb (below_drewN ((((b1.alloc (by omega) _).alloc (by simp; omega) _).alloc (by simp; omega) _).alloc (by simp; omega) _) q) (by omega)
  rintro e w3 ⟨rfl, q2, rfl⟩
  go_wp2_with fail
  refine (same_pos w.heap.size 0 x off (a + b) _ _ (fun i => zs[i]?.getD 0) _ (by omega) ?_ ?_).mono ?_
  · intro i hi
    rw [Nat.zero_add]
    exact (row_drewN _ ((((r1.alloc _).alloc _).alloc _).alloc _)).cell (by omega)
  · intro i hi
    exact cell_in HC.out hb (below_drewN ((((b1.alloc (by omega) _).alloc (by simp; omega) _).alloc (by simp; omega) _).alloc (by simp; omega) _) _) (by omega)
  rintro e w4 ⟨rfl, q3, rfl⟩
  go_wp2_with fail
  go_ret
  exact ⟨rfl, below_drewN ((((b1.alloc (by omega) _).alloc (by simp; omega) _).alloc (by simp; omega) _).alloc (by simp; omega) _) _⟩

set_option maxHeartbeats 2000000 in
theorem spl_eq (x off len cap a b : Nat) (zs : List Int) (w : World) (hlen : len ≤ 1048576) (hcap : len ≤ cap) (hc : ∀ i, i < len → w.cell? ⟨x, off + i, none⟩ = some (.int .u8 (zs[i]?.getD 0))) (hb : x < w.heap.size) (hab : a + b = len) (hbp : 0 < b) :
    Calls Tryd.prog 3 #[.slice (some ⟨x, off, none⟩) len cap, .int .i64 a, .int .i64 b] w fun e w' => e = .returned (.bool true) ∧ Below w.heap.size w w' := by
  subst hab
  have H6 := hid (clone_pos x off (a + b) cap zs w hlen hc hb)
  have hn := eql_nil
  have HC := hid hc
  have g1 : ¬ b = 0 := by omega
  clear hc
  go_enter Tryd.func3, Tryd.ntmps3
  go_wp2_with (first | (go_at_call 6; refine H6.out.mono ?_; rintro e w1 ⟨rfl, r1, b1, z1⟩; clear H6) | (go_at_call 5; go_in) | (go_at_call 7; go_in) | (go_at_call 8; go_in) | (go_at_call 13; go_in) | (go_at_call 9; go_in) | (go_at_call 10; go_in) | (go_at_call 14; go_in))
  refine (same_pos w.heap.size 0 x off a _ _ (fun i => zs[i]?.getD 0) _ (by omega) ?_ ?_).mono ?_
  · intro i hi
    rw [Nat.zero_add]
    exact ((r1.alloc _).alloc _).cell (by omega)
  · intro i hi
    exact cell_in HC.out hb ((b1.alloc (by omega) _).alloc (by simp; omega) _) (by omega)
  rintro e w2 ⟨rfl, q, rfl⟩
  go_wp2_with fail
  refine (same_pos w.heap.size a x (off + a) b _ _ (fun i => zs[a + i]?.getD 0) _ (by omega) ?_ ?_).mono ?_
  · intro i hi
    exact (row_drewN q ((r1.alloc _).alloc _)).cell (by omega)
  · intro i hi
    rw [Nat.add_assoc]
    exact cell_in HC.out hb (below_drewN ((b1.alloc (by omega) _).alloc (by simp; omega) _) q) (by omega)
  rintro e w3 ⟨rfl, q2, rfl⟩
  go_wp2_with fail
  refine (same_pos w.heap.size 0 x off (a + b) _ _ (fun i => zs[i]?.getD 0) _ (by omega) ?_ ?_).mono ?_
  · intro i hi
    rw [Nat.zero_add]
    exact (row_drewN _ ((r1.alloc _).alloc _)).cell (by omega)
  · intro i hi
    exact cell_in HC.out hb (below_drewN ((b1.alloc (by omega) _).alloc (by simp; omega) _) _) (by omega)
  rintro e w4 ⟨rfl, q3, rfl⟩
  go_wp2_with fail
  go_ret
  exact ⟨rfl, below_drewN ((b1.alloc (by omega) _).alloc (by simp; omega) _) _⟩

set_option maxHeartbeats 2000000 in
theorem spl_len (x off len cap : Nat) (zs : List Int) (w : World) (hlen : len ≤ 1048576) (hcap : len ≤ cap) (hc : ∀ i, i < len → w.cell? ⟨x, off + i, none⟩ = some (.int .u8 (zs[i]?.getD 0))) (hb : x < w.heap.size) :
    Calls Tryd.prog 3 #[.slice (some ⟨x, off, none⟩) len cap, .int .i64 len, .int .i64 0] w fun e w' => e = .returned (.bool true) ∧ Below w.heap.size w w' := by
  have H6 := hid (clone_pos x off len cap zs w hlen hc hb)
  have hn := eql_nil
  have HC := hid hc
  clear hc
  go_enter Tryd.func3, Tryd.ntmps3
  go_wp2_with (first | (go_at_call 6; refine H6.out.mono ?_; rintro e w1 ⟨rfl, r1, b1, z1⟩; clear H6) | (go_at_call 5; go_in) | (go_at_call 7; go_in) | (go_at_call 8; go_in) | (go_at_call 13; go_in) | (go_at_call 9; go_in) | (go_at_call 10; go_in) | (go_at_call 14; go_in))
  refine (same_pos w.heap.size 0 x off len _ _ (fun i => zs[i]?.getD 0) _ (by omega) ?_ ?_).mono ?_
  · intro i hi
    rw [Nat.zero_add]
    exact ((r1.alloc _).alloc _).cell (by omega)
  · intro i hi
    exact cell_in HC.out hb ((b1.alloc (by omega) _).alloc (by simp; omega) _) (by omega)
  rintro e w2 ⟨rfl, q, rfl⟩
  go_wp2_with fail
  all_goals
    refine (same_nil _ _ _ _ _).mono ?_
    rintro e w3 ⟨rfl, q2, rfl⟩
    go_wp2_with fail
    refine (same_pos w.heap.size 0 x off len _ _ (fun i => zs[i]?.getD 0) _ (by omega) ?_ ?_).mono ?_
    · intro i hi
      rw [Nat.zero_add]
      exact (row_drewN _ ((r1.alloc _).alloc _)).cell (by omega)
    · intro i hi
      exact cell_in HC.out hb (below_drewN ((b1.alloc (by omega) _).alloc (by simp; omega) _) _) (by omega)
    rintro e w4 ⟨rfl, q3, rfl⟩
    go_wp2_with fail
    go_ret
    exact ⟨rfl, below_drewN ((b1.alloc (by omega) _).alloc (by simp; omega) _) _⟩

set_option maxHeartbeats 2000000 in
theorem spl_zero (x : Addr) (cap : Nat) (zs : List Int) (w : World) :
    Calls Tryd.prog 3 #[.slice (some x) 0 cap, .int .i64 0, .int .i64 0] w fun e w' => e = .returned (.bool true) ∧ Below w.heap.size w w' := by
  have H6 := hid (clone_zero x cap zs w)
  have hn := eql_nil
  go_enter Tryd.func3, Tryd.ntmps3
  go_wp2_with (first | (go_at_call 6; refine H6.out.mono ?_; rintro e w1 ⟨rfl, r1, b1, z1⟩; clear H6) | (go_at_call 5; go_in) | (go_at_call 7; go_in) | (go_at_call 8; go_in) | (go_at_call 13; go_in) | (go_at_call 9; go_in) | (go_at_call 10; go_in) | (go_at_call 14; go_in))
  refine (same_nil _ _ _ _ _).mono ?_
  rintro e w2 ⟨rfl, q, rfl⟩
  go_wp2_with fail
  all_goals
    refine (same_nil _ _ _ _ _).mono ?_
    rintro e w3 ⟨rfl, q2, rfl⟩
    go_wp2_with fail
    refine (same_nil _ _ _ _ _).mono ?_
    rintro e w4 ⟨rfl, q3, rfl⟩
    go_wp2_with fail
    go_ret
    exact ⟨rfl, below_drewN ((b1.alloc (by omega) _).alloc (by simp; omega) _) _⟩

set_option maxHeartbeats 2000000 in
theorem spl_nil_zero (w : World) :
    Calls Tryd.prog 3 #[.slice none 0 0, .int .i64 0, .int .i64 0] w fun e w' => e = .returned (.bool true) ∧ Below w.heap.size w w' := by
  have H6 := hid (clone_nil w)
  have hn := eql_nil
  go_enter Tryd.func3, Tryd.ntmps3
  go_wp2_with (first | (go_at_call 6; refine H6.out.mono ?_; rintro e w1 ⟨rfl, rfl⟩; clear H6) | (go_at_call 5; go_in) | (go_at_call 7; go_in) | (go_at_call 8; go_in) | (go_at_call 13; go_in) | (go_at_call 9; go_in) | (go_at_call 10; go_in) | (go_at_call 14; go_in))
  refine (same_nil _ _ _ _ _).mono ?_
  rintro e w2 ⟨rfl, q, rfl⟩
  go_wp2_with fail
  refine (same_nil _ _ _ _ _).mono ?_
  rintro e w3 ⟨rfl, q2, rfl⟩
  go_wp2_with fail
  refine (same_nil _ _ _ _ _).mono ?_
  rintro e w4 ⟨rfl, q3, rfl⟩
  go_wp2_with fail
  go_ret
  exact ⟨rfl, below_drewN (((Below.refl _ _).alloc (Nat.le_refl _) _).alloc (by simp) _) _⟩

set_option maxHeartbeats 2000000 in
theorem spl_guard (v : Option Addr) (len cap : Nat) (a b : Int) (w : World) (hlen : len ≤ 1048576) (hg : a < 0 ∨ b < 0 ∨ 4611686018427387903 < a ∨ 4611686018427387903 < b) :
    Calls Tryd.prog 3 #[.slice v len cap, .int .i64 a, .int .i64 b] w fun e w' => e = .returned (.bool true) ∧ Below w.heap.size w w' := by
  by_cases h1 : a < 0
  · clear hg
    go_enter Tryd.func3, Tryd.ntmps3
    go_wp2
    go_ret
    exact ⟨rfl, Below.refl _ _⟩
  by_cases h2 : b < 0
  · clear hg
    go_enter Tryd.func3, Tryd.ntmps3
    go_wp2
    go_ret
    exact ⟨rfl, Below.refl _ _⟩
  by_cases h3 : 4611686018427387903 < a
  · clear hg
    go_enter Tryd.func3, Tryd.ntmps3
    go_wp2
    go_ret
    exact ⟨rfl, Below.refl _ _⟩
  have h4 : 4611686018427387903 < b := by omega
  clear hg
  go_enter Tryd.func3, Tryd.ntmps3
  go_wp2
  go_ret
  exact ⟨rfl, Below.refl _ _⟩

set_option maxHeartbeats 2000000 in
theorem spl_big (v : Option Addr) (len cap : Nat) (a b : Int) (w : World) (hlen : 1048576 < len) (hm : len ≤ 9223372036854775807) :
    Calls Tryd.prog 3 #[.slice v len cap, .int .i64 a, .int .i64 b] w fun e w' => e = .returned (.bool true) ∧ Below w.heap.size w w' := by
  go_enter Tryd.func3, Tryd.ntmps3
  go_wp2
  go_ret
  exact ⟨rfl, Below.refl _ _⟩
end Go.Proofs.Qxb6614394aDoor
