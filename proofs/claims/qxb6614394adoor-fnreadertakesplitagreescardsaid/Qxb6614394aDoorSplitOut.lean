/- The walk of FnReaderTakeSplitAgrees, where the two takes do not fit. -/
import Derived.Test.Qxb6614394aDoorSplit
namespace Go.Proofs.Qxb6614394aDoor
open Go.RowKit

/-- A take that fits. -/
theorem take_lt (R B o len n : Nat) (w : World) (h0 : w.cell? ⟨R, 0, none⟩ = some (.slice (some ⟨B, o, none⟩) len len)) (h1 : w.cell? ⟨R, 1, none⟩ = some .nilIface) (f0 : w.frozen? ⟨R, 0, none⟩ = false) (hn : n < len) :
    Calls Tryd.prog 8 #[.pointer (some ⟨R, 0, none⟩), .int .i64 n] w fun e w' => e = .returned (.slice (some ⟨B, o, none⟩) n n) ∧ w' = w.setCell ⟨R, 0, none⟩ (.slice (some ⟨B, o + n, none⟩) (len - n) (len - n)) := by
  have g : ¬ len = n := by omega
  go_enter Tryd.func8, Tryd.ntmps8
  go_wp2
  go_ret
  exact ⟨rfl, rfl⟩
theorem take_len (R len : Nat) (v : Option Addr) (w : World) (h0 : w.cell? ⟨R, 0, none⟩ = some (.slice v len len)) (h1 : w.cell? ⟨R, 1, none⟩ = some .nilIface) (f0 : w.frozen? ⟨R, 0, none⟩ = false) (hlen : len ≤ 1048576) (hv : (v = none ∧ len = 0) ∨ ∃ B o, v = some ⟨B, o, none⟩) :
    Calls Tryd.prog 8 #[.pointer (some ⟨R, 0, none⟩), .int .i64 len] w fun e w' => e = .returned (.slice v len len) ∧ w' = w.setCell ⟨R, 0, none⟩ (.slice v 0 0) := by
  rcases hv with ⟨rfl, rfl⟩ | ⟨B, o, rfl⟩
  · go_enter Tryd.func8, Tryd.ntmps8
    go_wp2
    go_ret
    exact ⟨rfl, rfl⟩
  · go_enter Tryd.func8, Tryd.ntmps8
    go_wp2
    go_ret
    exact ⟨rfl, rfl⟩

/-- A take behind an error. -/
theorem take_err (R : Nat) (n : Int) (w : World) (t : TypeId) (p : Value) (h1 : w.cell? ⟨R, 1, none⟩ = some (.iface t p)) :
    Calls Tryd.prog 8 #[.pointer (some ⟨R, 0, none⟩), .int .i64 n] w fun e w' => e = .returned (.slice none 0 0) ∧ w' = w := by
  go_enter Tryd.func8, Tryd.ntmps8
  go_wp2
  go_ret
  exact ⟨rfl, rfl⟩

set_option maxHeartbeats 2000000 in
theorem out_lt (x off len cap a b : Nat) (zs : List Int) (w : World) (hlen : len ≤ 1048576) (hcap : len ≤ cap) (hc : ∀ i, i < len → w.cell? ⟨x, off + i, none⟩ = some (.int .u8 (zs[i]?.getD 0))) (hb : x < w.heap.size) (ha : a < len) (hab : len < a + b) (hb4 : (b : Int) ≤ 4611686018427387903)
    (t : TypeId) (p : Value) (he : w.cell? ⟨0, 0, none⟩ = some (.iface t p)) (h0 : 0 < w.heap.size) :
    Calls Tryd.prog 3 #[.slice (some ⟨x, off, none⟩) len cap, .int .i64 a, .int .i64 b] w fun e w' => e = .returned (.bool true) ∧ Below w.heap.size w w' := by
  have H6 := hid (clone_pos x off len cap zs w hlen hc hb)
  have hn := eql_nil
  have HC := hid hc
  have g1 : ¬ len = a := by omega
  have g2 : ¬ (a : Int) + (b : Int) ≤ (len : Int) := by omega
  clear hc
  go_enter Tryd.func3, Tryd.ntmps3
  go_wp2_with (first | (go_at_call 6; refine H6.out.mono ?_; rintro e w1 ⟨rfl, r1, b1, z1⟩; have he1 := (b1.cell (p := ⟨0, 0, none⟩) h0).trans he; clear H6) | (go_at_call 5; go_in) | (go_at_call 7; go_in))
  refine (take_lt (w.heap.size + 1) w.heap.size 0 len a _ ?_ ?_ ?_ ha).mono ?_
  · go_simp
  · go_simp
  · go_simp
  rintro e w2 ⟨rfl, rfl⟩
  go_wp2_with fail
  refine (take_fail (w.heap.size + 1) (some ⟨w.heap.size, a, none⟩) (len - a) (len - a) b _ t p ?_ ?_ ?_ ?_ ?_ (by omega) (by omega)).mono ?_
  · go_simp
  · go_simp
  · go_simp
  · go_simp
  · go_simp
  rintro e w3 ⟨rfl, rfl⟩
  go_wp2_with (first | (go_at_call 7; go_in))
  refine (take_fail (w.heap.size + 2) (some ⟨w.heap.size, 0, none⟩) len len (a + b) _ t p ?_ ?_ ?_ ?_ ?_ (by omega) (by omega)).mono ?_
  · go_simp
  · go_simp
  · go_simp
  · go_simp
  · go_simp
  rintro e w4 ⟨rfl, rfl⟩
  go_wp2_with (first | (go_at_call 9; go_in) | (go_at_call 10; go_in))
  refine (same_pos w.heap.size 0 x off a _ _ (fun i => zs[i]?.getD 0) _ (by omega) ?_ ?_).mono ?_
  · intro i hi
    rw [Nat.zero_add]
    exact ((r1.alloc _).alloc _).cell (by omega)
  · intro i hi
    exact cell_in HC.out hb ((b1.alloc (by omega) _).alloc (by simp; omega) _) (by omega)
  rintro e w5 ⟨rfl, q, rfl⟩
  go_wp2_with fail
  go_ret
  exact ⟨rfl, below_drewN ((b1.alloc (by omega) _).alloc (by simp; omega) _) _⟩

set_option maxHeartbeats 2000000 in
theorem out_len (x off len cap b : Nat) (zs : List Int) (w : World) (hlen : len ≤ 1048576) (hcap : len ≤ cap) (hc : ∀ i, i < len → w.cell? ⟨x, off + i, none⟩ = some (.int .u8 (zs[i]?.getD 0))) (hb : x < w.heap.size) (hbp : 0 < b) (hb4 : (b : Int) ≤ 4611686018427387903)
    (t : TypeId) (p : Value) (he : w.cell? ⟨0, 0, none⟩ = some (.iface t p)) (h0 : 0 < w.heap.size) :
    Calls Tryd.prog 3 #[.slice (some ⟨x, off, none⟩) len cap, .int .i64 len, .int .i64 b] w fun e w' => e = .returned (.bool true) ∧ Below w.heap.size w w' := by
  have H6 := hid (clone_pos x off len cap zs w hlen hc hb)
  have hn := eql_nil
  have HC := hid hc
  have g2 : ¬ (len : Int) + (b : Int) ≤ (len : Int) := by omega
  clear hc
  go_enter Tryd.func3, Tryd.ntmps3
  go_wp2_with (first | (go_at_call 6; refine H6.out.mono ?_; rintro e w1 ⟨rfl, r1, b1, z1⟩; have he1 := (b1.cell (p := ⟨0, 0, none⟩) h0).trans he; clear H6) | (go_at_call 5; go_in) | (go_at_call 7; go_in))
  refine (take_len (w.heap.size + 1) len (some ⟨w.heap.size, 0, none⟩) _ ?_ ?_ ?_ hlen (Or.inr ⟨_, _, rfl⟩)).mono ?_
  · go_simp
  · go_simp
  · go_simp
  rintro e w2 ⟨rfl, rfl⟩
  go_wp2_with fail
  refine (take_fail (w.heap.size + 1) (some ⟨w.heap.size, 0, none⟩) 0 0 b _ t p ?_ ?_ ?_ ?_ ?_ (by omega) (by omega)).mono ?_
  · go_simp
  · go_simp
  · go_simp
  · go_simp
  · go_simp
  rintro e w3 ⟨rfl, rfl⟩
  go_wp2_with (first | (go_at_call 7; go_in))
  refine (take_fail (w.heap.size + 2) (some ⟨w.heap.size, 0, none⟩) len len (len + b) _ t p ?_ ?_ ?_ ?_ ?_ (by omega) (by omega)).mono ?_
  · go_simp
  · go_simp
  · go_simp
  · go_simp
  · go_simp
  rintro e w4 ⟨rfl, rfl⟩
  go_wp2_with (first | (go_at_call 9; go_in) | (go_at_call 10; go_in))
  refine (same_pos w.heap.size 0 x off len _ _ (fun i => zs[i]?.getD 0) _ (by omega) ?_ ?_).mono ?_
  · intro i hi
    rw [Nat.zero_add]
    exact ((r1.alloc _).alloc _).cell (by omega)
  · intro i hi
    exact cell_in HC.out hb ((b1.alloc (by omega) _).alloc (by simp; omega) _) (by omega)
  rintro e w5 ⟨rfl, q, rfl⟩
  go_wp2_with fail
  go_ret
  exact ⟨rfl, below_drewN ((b1.alloc (by omega) _).alloc (by simp; omega) _) _⟩

set_option maxHeartbeats 2000000 in
theorem out_zero (x : Addr) (cap b : Nat) (zs : List Int) (w : World) (hbp : 0 < b) (hb4 : (b : Int) ≤ 4611686018427387903)
    (t : TypeId) (p : Value) (he : w.cell? ⟨0, 0, none⟩ = some (.iface t p)) (h0 : 0 < w.heap.size) :
    Calls Tryd.prog 3 #[.slice (some x) 0 cap, .int .i64 0, .int .i64 b] w fun e w' => e = .returned (.bool true) ∧ Below w.heap.size w w' := by
  have H6 := hid (clone_zero x cap zs w)
  have hn := eql_nil
  have hbi : (0 : Int) < (b : Int) := by omega
  have g2 : ¬ (b : Int) ≤ 0 := by omega
  go_enter Tryd.func3, Tryd.ntmps3
  go_wp2_with (first | (go_at_call 6; refine H6.out.mono ?_; rintro e w1 ⟨rfl, r1, b1, z1⟩; have he1 := (b1.cell (p := ⟨0, 0, none⟩) h0).trans he; clear H6) | (go_at_call 5; go_in) | (go_at_call 7; go_in))
  refine (take_len (w.heap.size + 1) 0 (some ⟨w.heap.size, 0, none⟩) _ ?_ ?_ ?_ (by omega) (Or.inr ⟨_, _, rfl⟩)).mono ?_
  · go_simp
  · go_simp
  · go_simp
  rintro e w2 ⟨rfl, rfl⟩
  go_wp2_with fail
  refine (take_fail (w.heap.size + 1) (some ⟨w.heap.size, 0, none⟩) 0 0 b _ t p ?_ ?_ ?_ ?_ ?_ (by omega) (by omega)).mono ?_
  · go_simp
  · go_simp
  · go_simp
  · go_simp
  · go_simp
  rintro e w3 ⟨rfl, rfl⟩
  go_wp2_with (first | (go_at_call 7; go_in))
  refine (take_fail (w.heap.size + 2) (some ⟨w.heap.size, 0, none⟩) 0 0 b _ t p ?_ ?_ ?_ ?_ ?_ (by omega) (by omega)).mono ?_
  · go_simp
  · go_simp
  · go_simp
  · go_simp
  · go_simp
  rintro e w4 ⟨rfl, rfl⟩
  go_wp2_with (first | (go_at_call 9; go_in) | (go_at_call 10; go_in))
  refine (same_nil _ _ _ _ _).mono ?_
  rintro e w5 ⟨rfl, q, rfl⟩
  go_wp2_with fail
  go_ret
  exact ⟨rfl, below_drewN ((b1.alloc (by omega) _).alloc (by simp; omega) _) _⟩

set_option maxHeartbeats 2000000 in
theorem out_gt (x : Addr) (len cap a b : Nat) (zs : List Int) (w : World) (hlen : len ≤ 1048576) (hc : ∀ i, i < len → w.cell? (x.add i) = some (.int .u8 (zs[i]?.getD 0))) (ha : len < a) (ha4 : (a : Int) ≤ 4611686018427387903) (hb4 : (b : Int) ≤ 4611686018427387903)
    (t : TypeId) (p : Value) (he : w.cell? ⟨0, 0, none⟩ = some (.iface t p)) (h0 : 0 < w.heap.size) :
    Calls Tryd.prog 3 #[.slice (some x) len cap, .int .i64 a, .int .i64 b] w fun e w' => e = .returned (.bool true) ∧ Below w.heap.size w w' := by
  have H6 := hid (clone_any x len cap zs w hlen hc)
  have hn := eql_nil
  have g2 : ¬ (a : Int) + (b : Int) ≤ (len : Int) := by omega
  have g3 : ¬ a ≤ len := by omega
  clear hc
  go_enter Tryd.func3, Tryd.ntmps3
  go_wp2_with (first | (go_at_call 6; refine H6.out.mono ?_; rintro e w1 ⟨rfl, r1, b1, z1⟩; have he1 := (b1.cell (p := ⟨0, 0, none⟩) h0).trans he; clear H6) | (go_at_call 5; go_in) | (go_at_call 7; go_in))
  refine (take_fail (w.heap.size + 1) (some ⟨w.heap.size, 0, none⟩) len len a _ t p ?_ ?_ ?_ ?_ ?_ (by omega) (by omega)).mono ?_
  · go_simp
  · go_simp
  · go_simp
  · go_simp
  · go_simp
  rintro e w2 ⟨rfl, rfl⟩
  go_wp2_with fail
  refine (take_err (w.heap.size + 1) b _ t p ?_).mono ?_
  · go_simp
  rintro e w3 ⟨rfl, rfl⟩
  go_wp2_with (first | (go_at_call 7; go_in))
  refine (take_fail (w.heap.size + 2) (some ⟨w.heap.size, 0, none⟩) len len (a + b) _ t p ?_ ?_ ?_ ?_ ?_ (by omega) (by omega)).mono ?_
  · go_simp
  · go_simp
  · go_simp
  · go_simp
  · go_simp
  rintro e w4 ⟨rfl, rfl⟩
  go_wp2_with (first | (go_at_call 9; go_in) | (go_at_call 10; go_in))
  go_ret
  exact ⟨rfl, (b1.alloc (by omega) _).alloc (by simp; omega) _⟩

set_option maxHeartbeats 2000000 in
theorem out_nil_b (b : Nat) (w : World) (hbp : 0 < b) (hb4 : (b : Int) ≤ 4611686018427387903)
    (t : TypeId) (p : Value) (he : w.cell? ⟨0, 0, none⟩ = some (.iface t p)) (h0 : 0 < w.heap.size) :
    Calls Tryd.prog 3 #[.slice none 0 0, .int .i64 0, .int .i64 b] w fun e w' => e = .returned (.bool true) ∧ Below w.heap.size w w' := by
  have H6 := hid (clone_nil w)
  have hn := eql_nil
  have hbi : (0 : Int) < (b : Int) := by omega
  have g2 : ¬ (b : Int) ≤ 0 := by omega
  go_enter Tryd.func3, Tryd.ntmps3
  go_wp2_with (first | (go_at_call 6; refine H6.out.mono ?_; rintro e w1 ⟨rfl, rfl⟩; clear H6) | (go_at_call 5; go_in) | (go_at_call 7; go_in))
  refine (take_len _ 0 none _ ?_ ?_ ?_ (by omega) (Or.inl ⟨rfl, rfl⟩)).mono ?_
  · go_simp
  · go_simp
  · go_simp
  rintro e w2 ⟨rfl, rfl⟩
  go_wp2_with fail
  refine (take_fail _ none 0 0 b _ t p ?_ ?_ ?_ ?_ ?_ (by omega) (by omega)).mono ?_
  · go_simp
  · go_simp
  · go_simp
  · go_simp
  · go_simp
  rintro e w3 ⟨rfl, rfl⟩
  go_wp2_with (first | (go_at_call 7; go_in))
  refine (take_fail _ none 0 0 b _ t p ?_ ?_ ?_ ?_ ?_ (by omega) (by omega)).mono ?_
  · go_simp
  · go_simp
  · go_simp
  · go_simp
  · go_simp
  rintro e w4 ⟨rfl, rfl⟩
  go_wp2_with (first | (go_at_call 9; go_in) | (go_at_call 10; go_in))
  refine (same_nil _ _ _ _ _).mono ?_
  rintro e w5 ⟨rfl, q, rfl⟩
  go_wp2_with fail
  go_ret
  exact ⟨rfl, below_drewN (((Below.refl _ _).alloc (Nat.le_refl _) _).alloc (by simp) _) _⟩

set_option maxHeartbeats 2000000 in
theorem out_nil_a (a b : Nat) (w : World) (hap : 0 < a) (ha4 : (a : Int) ≤ 4611686018427387903) (hb4 : (b : Int) ≤ 4611686018427387903)
    (t : TypeId) (p : Value) (he : w.cell? ⟨0, 0, none⟩ = some (.iface t p)) (h0 : 0 < w.heap.size) :
    Calls Tryd.prog 3 #[.slice none 0 0, .int .i64 a, .int .i64 b] w fun e w' => e = .returned (.bool true) ∧ Below w.heap.size w w' := by
  have H6 := hid (clone_nil w)
  have hn := eql_nil
  have g2 : ¬ (a : Int) + (b : Int) ≤ 0 := by omega
  have g3 : ¬ (a : Int) ≤ 0 := by omega
  go_enter Tryd.func3, Tryd.ntmps3
  go_wp2_with (first | (go_at_call 6; refine H6.out.mono ?_; rintro e w1 ⟨rfl, rfl⟩; clear H6) | (go_at_call 5; go_in) | (go_at_call 7; go_in))
  refine (take_fail _ none 0 0 a _ t p ?_ ?_ ?_ ?_ ?_ (by omega) (by omega)).mono ?_
  · go_simp
  · go_simp
  · go_simp
  · go_simp
  · go_simp
  rintro e w2 ⟨rfl, rfl⟩
  go_wp2_with fail
  refine (take_err _ b _ t p ?_).mono ?_
  · go_simp
  rintro e w3 ⟨rfl, rfl⟩
  go_wp2_with (first | (go_at_call 7; go_in))
  refine (take_fail _ none 0 0 (a + b) _ t p ?_ ?_ ?_ ?_ ?_ (by omega) (by omega)).mono ?_
  · go_simp
  · go_simp
  · go_simp
  · go_simp
  · go_simp
  rintro e w4 ⟨rfl, rfl⟩
  go_wp2_with (first | (go_at_call 9; go_in) | (go_at_call 10; go_in))
  go_ret
  exact ⟨rfl, ((Below.refl _ _).alloc (Nat.le_refl _) _).alloc (by simp) _⟩
end Go.Proofs.Qxb6614394aDoor
