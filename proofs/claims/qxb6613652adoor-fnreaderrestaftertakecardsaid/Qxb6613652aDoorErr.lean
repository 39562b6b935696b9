/- The walk of FnReaderErrAfterTwoTakes. -/
import Derived.Test.Qxb6613652aDoorClone
namespace Go.Proofs.Qxb6613652aDoor
open Go.RowKit

/-- An argument's cells, in a later world. -/
theorem cells_later {a : Addr} {len : Nat} {zs : List Int} {w w1 : World} (hc : ∀ i, i < len → w.cell? (a.add i) = some (.int .u8 (zs[i]?.getD 0))) (hb : Below w.heap.size w w1) :
    ∀ i, i < len → w1.cell? (a.add i) = some (.int .u8 (zs[i]?.getD 0)) := fun i hi => by
  have h := hc i hi
  have hlt : (a.add i).block < w.heap.size := by
    apply Decidable.byContradiction
    intro hn
    simp only [World.cell?] at h
    rw [Array.getElem?_eq_none (by simpa using hn)] at h
    cases h
  rw [hb.cell hlt]; exact h
/-- Two clones, one behind the other. -/
theorem two_clones {w w1 w2 : World} {len : Nat} {f : Nat → Value} (r1 : w1.rowIs w.heap.size 5 len f) (b1 : Below w.heap.size w w1) (z1 : w1.heap.size = w.heap.size + 1)
    (r2 : w2.rowIs w1.heap.size 5 len f) (b2 : Below w1.heap.size w1 w2) (z2 : w2.heap.size = w1.heap.size + 1) :
    w2.rowIs w.heap.size 5 len f ∧ w2.rowIs (w.heap.size + 1) 5 len f ∧ Below w.heap.size w w2 ∧ w2.heap.size = w.heap.size + 2 := by
  refine ⟨r1.of_block (b2.block _ (by omega)), by rw [← z1]; exact r2, b1.trans (b2.mono (by omega)), by omega⟩

theorem heap_drewN' (w : World) (k : Nat) : (w.drewN k).heap = w.heap := by
  induction k with
  | zero => rfl
  | succ k ih => exact ih
theorem row_drewN {w : World} {b : Nat} {t : TypeId} {n : Nat} {f : Nat → Value} (k : Nat) (h : w.rowIs b t n f) : (w.drewN k).rowIs b t n f := h.of_block (by rw [heap_drewN'])

set_option maxHeartbeats 1000000 in
theorem err_gt (a : Addr) (len cap n m : Nat) (zs : List Int) (w : World) (hlen : len ≤ 1048576) (hc : ∀ i, i < len → w.cell? (a.add i) = some (.int .u8 (zs[i]?.getD 0))) (hgt : len < n)
    (t : TypeId) (p : Value) (he : w.cell? ⟨0, 0, none⟩ = some (.iface t p)) (h0 : 0 < w.heap.size) :
    Calls Tryd.prog 3 #[.slice (some a) len cap, .int .u64 n, .int .u64 m] w fun e w' => e = .returned (.bool true) ∧ Below w.heap.size w w' := by
  have H7 := hid (fun w (h : _) => clone_any a len cap zs w hlen h)
  have hn := eql_nil
  have hq := neq_nil
  have HC := hid hc
  clear hc
  go_enter Tryd.func3, Tryd.ntmps3
  go_wp2_with (first | (go_at_call 7; refine (H7.out _ HC.out).mono ?_; rintro e w1 ⟨rfl, r1, b1, z1⟩; have HC1 := hid (cells_later HC.out b1); clear HC) | (go_at_call 7; refine (H7.out _ HC1.out).mono ?_; rintro e w2 ⟨rfl, r2, b2, z2⟩; obtain ⟨r3, r4, b3, z3⟩ := two_clones r1 b1 z1 r2 b2 z2; have he1 := (b3.cell (p := ⟨0, 0, none⟩) h0).trans he; clear H7 HC1 r1 r2 b1 b2 z2) | (go_at_call 6; go_in) | (go_at_call 8; go_in) | (go_at_call 9; go_in) | (go_at_call 10; go_in))
  go_ret
  exact ⟨rfl, b3.alloc (by omega) _⟩

set_option maxHeartbeats 1000000 in
theorem err_le (a : Addr) (len cap n m : Nat) (zs : List Int) (w : World) (hlen : len ≤ 1048576) (hc : ∀ i, i < len → w.cell? (a.add i) = some (.int .u8 (zs[i]?.getD 0))) (hlt : n < len) (hm : n + m ≤ len)
    (t : TypeId) (p : Value) (he : w.cell? ⟨0, 0, none⟩ = some (.iface t p)) (h0 : 0 < w.heap.size) :
    Calls Tryd.prog 3 #[.slice (some a) len cap, .int .u64 n, .int .u64 m] w fun e w' => e = .returned (.bool true) ∧ Below w.heap.size w w' := by
  have H7 := hid (fun w (h : _) => clone_any a len cap zs w hlen h)
  have hn := eql_nil
  have hq := neq_nil
  have HC := hid hc
  have hle : n ≤ len := by omega
  have hm2 : m ≤ len - n := by omega
  have hm3 : (m : Int) ≤ (len : Int) - (n : Int) := by omega
  clear hc
  go_enter Tryd.func3, Tryd.ntmps3
  go_wp2_with (first | (go_at_call 7; refine (H7.out _ HC.out).mono ?_; rintro e w1 ⟨rfl, r1, b1, z1⟩; have HC1 := hid (cells_later HC.out b1); clear HC) | (go_at_call 7; refine (H7.out _ HC1.out).mono ?_; rintro e w2 ⟨rfl, r2, b2, z2⟩; obtain ⟨r3, r4, b3, z3⟩ := two_clones r1 b1 z1 r2 b2 z2; have he1 := (b3.cell (p := ⟨0, 0, none⟩) h0).trans he; clear H7 HC1 r1 r2 b1 b2 z2) | (go_at_call 6; go_in) | (go_at_call 8; go_in) | (go_at_call 9; go_in) | (go_at_call 10; go_in))
  refine (same_pos (w.heap.size + 1) 0 w.heap.size 0 n _ _ (fun i => zs[i]?.getD 0) _ (by omega) ?_ ?_).mono ?_
  · intro i hi
    rw [Nat.zero_add]
    exact (r4.alloc _).cell (by omega)
  · intro i hi
    rw [Nat.zero_add]
    exact (r3.alloc _).cell (by omega)
  rintro e w3 ⟨rfl, k, rfl⟩
  go_wp2_with (first | (go_at_call 9; go_in) | (go_at_call 10; go_in))
  all_goals
    refine (same_pos (w.heap.size + 1) n w.heap.size n m _ _ (fun i => zs[n + i]?.getD 0) _ (by omega) ?_ ?_).mono ?_
    · intro i hi
      exact ((row_drewN k (r4.alloc _)).setOther (by simp) _).cell (by omega)
    · intro i hi
      exact ((row_drewN k (r3.alloc _)).setOther (by simp) _).cell (by omega)
    rintro e w4 ⟨rfl, k', rfl⟩
    go_wp2_with fail
    go_ret
    exact ⟨rfl, below_drewN ((below_drewN (b3.alloc (by omega) _) k).setCell (by show w.heap.size ≤ w.heap.size + 2; omega) _) k'⟩

set_option maxHeartbeats 1000000 in
theorem err_le_gt (a : Addr) (len cap n m : Nat) (zs : List Int) (w : World) (hlen : len ≤ 1048576) (hc : ∀ i, i < len → w.cell? (a.add i) = some (.int .u8 (zs[i]?.getD 0))) (hlt : n < len) (hm : len < n + m)
    (t : TypeId) (p : Value) (he : w.cell? ⟨0, 0, none⟩ = some (.iface t p)) (h0 : 0 < w.heap.size) :
    Calls Tryd.prog 3 #[.slice (some a) len cap, .int .u64 n, .int .u64 m] w fun e w' => e = .returned (.bool true) ∧ Below w.heap.size w w' := by
  have H7 := hid (fun w (h : _) => clone_any a len cap zs w hlen h)
  have hn := eql_nil
  have hq := neq_nil
  have HC := hid hc
  clear hc
  have hle : n ≤ len := by omega
  have hm2 : len - n < m := by omega
  have hm3 : (len : Int) - (n : Int) < (m : Int) := by omega
  go_enter Tryd.func3, Tryd.ntmps3
  go_wp2_with (first | (go_at_call 7; refine (H7.out _ HC.out).mono ?_; rintro e w1 ⟨rfl, r1, b1, z1⟩; have HC1 := hid (cells_later HC.out b1); clear HC) | (go_at_call 7; refine (H7.out _ HC1.out).mono ?_; rintro e w2 ⟨rfl, r2, b2, z2⟩; obtain ⟨r3, r4, b3, z3⟩ := two_clones r1 b1 z1 r2 b2 z2; have he1 := (b3.cell (p := ⟨0, 0, none⟩) h0).trans he; clear H7 HC1 r1 r2 b1 b2 z2) | (go_at_call 6; go_in) | (go_at_call 8; go_in) | (go_at_call 9; go_in) | (go_at_call 10; go_in))
  refine (same_pos (w.heap.size + 1) 0 w.heap.size 0 n _ _ (fun i => zs[i]?.getD 0) _ (by omega) ?_ ?_).mono ?_
  · intro i hi
    rw [Nat.zero_add]
    exact (r4.alloc _).cell (by omega)
  · intro i hi
    rw [Nat.zero_add]
    exact (r3.alloc _).cell (by omega)
  rintro e w3 ⟨rfl, k, rfl⟩
  go_wp2_with (first | (go_at_call 9; go_in) | (go_at_call 10; go_in))
  go_ret
  exact ⟨rfl, (below_drewN (b3.alloc (by omega) _) k).setCell (by show w.heap.size ≤ w.heap.size + 2; omega) _⟩

set_option maxHeartbeats 1000000 in
theorem err_eq_zero (a : Addr) (len cap : Nat) (zs : List Int) (w : World) (hlen : len ≤ 1048576) (hc : ∀ i, i < len → w.cell? (a.add i) = some (.int .u8 (zs[i]?.getD 0)))
    (t : TypeId) (p : Value) (he : w.cell? ⟨0, 0, none⟩ = some (.iface t p)) (h0 : 0 < w.heap.size) :
    Calls Tryd.prog 3 #[.slice (some a) len cap, .int .u64 len, .int .u64 0] w fun e w' => e = .returned (.bool true) ∧ Below w.heap.size w w' := by
  have H7 := hid (fun w (h : _) => clone_any a len cap zs w hlen h)
  have hn := eql_nil
  have hq := neq_nil
  have HC := hid hc
  clear hc
  go_enter Tryd.func3, Tryd.ntmps3
  go_wp2_with (first | (go_at_call 7; refine (H7.out _ HC.out).mono ?_; rintro e w1 ⟨rfl, r1, b1, z1⟩; have HC1 := hid (cells_later HC.out b1); clear HC) | (go_at_call 7; refine (H7.out _ HC1.out).mono ?_; rintro e w2 ⟨rfl, r2, b2, z2⟩; obtain ⟨r3, r4, b3, z3⟩ := two_clones r1 b1 z1 r2 b2 z2; have he1 := (b3.cell (p := ⟨0, 0, none⟩) h0).trans he; clear H7 HC1 r1 r2 b1 b2 z2) | (go_at_call 6; go_in) | (go_at_call 8; go_in) | (go_at_call 9; go_in) | (go_at_call 10; go_in))
  refine (same_pos (w.heap.size + 1) 0 w.heap.size 0 len _ _ (fun i => zs[i]?.getD 0) _ (by omega) ?_ ?_).mono ?_
  · intro i hi
    rw [Nat.zero_add]
    exact (r4.alloc _).cell (by omega)
  · intro i hi
    rw [Nat.zero_add]
    exact (r3.alloc _).cell (by omega)
  rintro e w3 ⟨rfl, k, rfl⟩
  go_wp2_with (first | (go_at_call 9; go_in) | (go_at_call 10; go_in))
  all_goals
    refine (same_nil _ _ _ _ _).mono ?_
    rintro e w4 ⟨rfl, k', rfl⟩
    go_wp2_with fail
    go_ret
    exact ⟨rfl, below_drewN ((below_drewN (b3.alloc (by omega) _) k).setCell (by show w.heap.size ≤ w.heap.size + 2; omega) _) k'⟩

set_option maxHeartbeats 1000000 in
theorem err_eq_pos (a : Addr) (len cap m : Nat) (zs : List Int) (w : World) (hlen : len ≤ 1048576) (hc : ∀ i, i < len → w.cell? (a.add i) = some (.int .u8 (zs[i]?.getD 0))) (hm : 0 < m)
    (t : TypeId) (p : Value) (he : w.cell? ⟨0, 0, none⟩ = some (.iface t p)) (h0 : 0 < w.heap.size) :
    Calls Tryd.prog 3 #[.slice (some a) len cap, .int .u64 len, .int .u64 m] w fun e w' => e = .returned (.bool true) ∧ Below w.heap.size w w' := by
  have H7 := hid (fun w (h : _) => clone_any a len cap zs w hlen h)
  have hn := eql_nil
  have hq := neq_nil
  have HC := hid hc
  clear hc
  have hm3 : (0 : Int) < (m : Int) := by omega
  go_enter Tryd.func3, Tryd.ntmps3
  go_wp2_with (first | (go_at_call 7; refine (H7.out _ HC.out).mono ?_; rintro e w1 ⟨rfl, r1, b1, z1⟩; have HC1 := hid (cells_later HC.out b1); clear HC) | (go_at_call 7; refine (H7.out _ HC1.out).mono ?_; rintro e w2 ⟨rfl, r2, b2, z2⟩; obtain ⟨r3, r4, b3, z3⟩ := two_clones r1 b1 z1 r2 b2 z2; have he1 := (b3.cell (p := ⟨0, 0, none⟩) h0).trans he; clear H7 HC1 r1 r2 b1 b2 z2) | (go_at_call 6; go_in) | (go_at_call 8; go_in) | (go_at_call 9; go_in) | (go_at_call 10; go_in))
  refine (same_pos (w.heap.size + 1) 0 w.heap.size 0 len _ _ (fun i => zs[i]?.getD 0) _ (by omega) ?_ ?_).mono ?_
  · intro i hi
    rw [Nat.zero_add]
    exact (r4.alloc _).cell (by omega)
  · intro i hi
    rw [Nat.zero_add]
    exact (r3.alloc _).cell (by omega)
  rintro e w3 ⟨rfl, k, rfl⟩
  go_wp2_with (first | (go_at_call 9; go_in) | (go_at_call 10; go_in))
  go_ret
  exact ⟨rfl, (below_drewN (b3.alloc (by omega) _) k).setCell (by show w.heap.size ≤ w.heap.size + 2; omega) _⟩

set_option maxHeartbeats 1000000 in
theorem err_big (v : Option Addr) (len cap n m : Nat) (w : World) (hlen : 1048576 < len) (hm : len ≤ 9223372036854775807) :
    Calls Tryd.prog 3 #[.slice v len cap, .int .u64 n, .int .u64 m] w fun e w' => e = .returned (.bool true) ∧ Below w.heap.size w w' := by
  go_enter Tryd.func3, Tryd.ntmps3
  go_wp2
  go_ret
  exact ⟨rfl, Below.refl _ _⟩

set_option maxHeartbeats 1000000 in
theorem err_nil_gt (n m : Nat) (w : World) (t : TypeId) (p : Value) (he : w.cell? ⟨0, 0, none⟩ = some (.iface t p)) (h0 : 0 < w.heap.size) (hn0 : 0 < n) :
    Calls Tryd.prog 3 #[.slice none 0 0, .int .u64 n, .int .u64 m] w fun e w' => e = .returned (.bool true) ∧ Below w.heap.size w w' := by
  have H7 := hid clone_nil
  have hn := eql_nil
  have hq := neq_nil
  go_enter Tryd.func3, Tryd.ntmps3
  go_wp2_with (first | (go_at_call 7; refine (H7.out _).mono ?_; rintro e w1 ⟨rfl, rfl⟩) | (go_at_call 6; go_in) | (go_at_call 8; go_in) | (go_at_call 9; go_in) | (go_at_call 10; go_in))
  go_ret
  exact ⟨rfl, (Below.refl _ _).alloc (Nat.le_refl _) _⟩

set_option maxHeartbeats 1000000 in
theorem err_nil_zero (w : World) :
    Calls Tryd.prog 3 #[.slice none 0 0, .int .u64 0, .int .u64 0] w fun e w' => e = .returned (.bool true) ∧ Below w.heap.size w w' := by
  have H7 := hid clone_nil
  have hn := eql_nil
  have hq := neq_nil
  go_enter Tryd.func3, Tryd.ntmps3
  go_wp2_with (first | (go_at_call 7; refine (H7.out _).mono ?_; rintro e w1 ⟨rfl, rfl⟩) | (go_at_call 6; go_in) | (go_at_call 8; go_in) | (go_at_call 9; go_in) | (go_at_call 10; go_in))
  refine (same_nil _ _ _ _ _).mono ?_
  rintro e w3 ⟨rfl, k, rfl⟩
  go_wp2_with (first | (go_at_call 9; go_in) | (go_at_call 10; go_in))
  refine (same_nil _ _ _ _ _).mono ?_
  rintro e w4 ⟨rfl, k', rfl⟩
  go_wp2_with fail
  go_ret
  exact ⟨rfl, below_drewN ((below_drewN ((Below.refl _ _).alloc (Nat.le_refl _) _) k).setCell (Nat.le_refl _) _) k'⟩

set_option maxHeartbeats 1000000 in
theorem err_nil_pos (m : Nat) (w : World) (t : TypeId) (p : Value) (he : w.cell? ⟨0, 0, none⟩ = some (.iface t p)) (h0 : 0 < w.heap.size) (hm0 : 0 < m) :
    Calls Tryd.prog 3 #[.slice none 0 0, .int .u64 0, .int .u64 m] w fun e w' => e = .returned (.bool true) ∧ Below w.heap.size w w' := by
  have H7 := hid clone_nil
  have hn := eql_nil
  have hq := neq_nil
  have hm3 : (0 : Int) < (m : Int) := by omega
  go_enter Tryd.func3, Tryd.ntmps3
  go_wp2_with (first | (go_at_call 7; refine (H7.out _).mono ?_; rintro e w1 ⟨rfl, rfl⟩) | (go_at_call 6; go_in) | (go_at_call 8; go_in) | (go_at_call 9; go_in) | (go_at_call 10; go_in))
  refine (same_nil _ _ _ _ _).mono ?_
  rintro e w3 ⟨rfl, k, rfl⟩
  go_wp2_with (first | (go_at_call 9; go_in) | (go_at_call 10; go_in))
  go_ret
  exact ⟨rfl, (below_drewN ((Below.refl _ _).alloc (Nat.le_refl _) _) k).setCell (Nat.le_refl _) _⟩
end Go.Proofs.Qxb6613652aDoor
