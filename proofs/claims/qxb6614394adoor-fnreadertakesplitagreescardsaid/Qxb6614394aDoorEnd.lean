/- The walk of FnReaderEndReadsNothing. -/
import Derived.Test.Qxb6614394aDoorClone
namespace Go.Proofs.Qxb6614394aDoor
open Go.RowKit

theorem row_drewN {w : World} {b : Nat} {t : TypeId} {n : Nat} {f : Nat → Value} (k : Nat) (h : w.rowIs b t n f) : (w.drewN k).rowIs b t n f := h

/-- A take that does not fit. -/
theorem take_fail (R : Nat) (a : Option Addr) (len cap : Nat) (n : Int) (w : World) (t : TypeId) (p : Value) (he : w.cell? ⟨0, 0, none⟩ = some (.iface t p))
    (h0 : w.cell? ⟨R, 0, none⟩ = some (.slice a len cap)) (h1 : w.cell? ⟨R, 1, none⟩ = some .nilIface) (f0 : w.frozen? ⟨R, 0, none⟩ = false) (f1 : w.frozen? ⟨R, 1, none⟩ = false) (hlen : len ≤ 1048576) (hn : n < 0 ∨ (len : Int) < n) :
    Calls Tryd.prog 8 #[.pointer (some ⟨R, 0, none⟩), .int .i64 n] w fun e w' => e = .returned (.slice none 0 0) ∧ w' = (w.setCell ⟨R, 1, none⟩ (.iface t p)).setCell ⟨R, 0, none⟩ (.slice none 0 0) := by
  rcases hn with hn | hn
  · go_enter Tryd.func8, Tryd.ntmps8
    go_wp2
    go_end0
    go_wp2
    go_ret
    exact ⟨rfl, rfl⟩
  · have hp : ¬ n < 0 := by omega
    go_enter Tryd.func8, Tryd.ntmps8
    go_wp2
    go_end0
    go_wp2
    go_ret
    exact ⟨rfl, rfl⟩

/-- An argument's cells, in a later world. -/
theorem cell_in {b off len : Nat} {zs : List Int} {w W : World} (hc : ∀ i, i < len → w.cell? ⟨b, off + i, none⟩ = some (.int .u8 (zs[i]?.getD 0))) (hb : b < w.heap.size) (hB : Below w.heap.size w W) {i : Nat} (hi : i < len) :
    W.cell? ⟨b, off + i, none⟩ = some (.int .u8 (zs[i]?.getD 0)) := (hB.cell hb).trans (hc i hi)

set_option maxHeartbeats 1000000 in
theorem end_out (a : Addr) (len cap : Nat) (k : Int) (zs : List Int) (w : World) (hlen : len ≤ 1048576) (hc : ∀ i, i < len → w.cell? (a.add i) = some (.int .u8 (zs[i]?.getD 0))) (hk : k < 0 ∨ (len : Int) < k)
    (t : TypeId) (p : Value) (he : w.cell? ⟨0, 0, none⟩ = some (.iface t p)) (h0 : 0 < w.heap.size) :
    Calls Tryd.prog 4 #[.slice (some a) len cap, .int .i64 k] w fun e w' => e = .returned (.bool true) ∧ Below w.heap.size w w' := by
  have H6 := hid (clone_any a len cap zs w hlen hc)
  have hn := eql_nil
  have HK := hid hk
  clear hc hk
  go_enter Tryd.func4, Tryd.ntmps4
  go_wp2_with (first | (go_at_call 6; refine H6.out.mono ?_; rintro e w1 ⟨rfl, r1, b1, z1⟩; have he1 := (b1.cell (p := ⟨0, 0, none⟩) h0).trans he; clear H6) | (go_at_call 12; go_in) | (go_at_call 7; go_in))
  refine (take_fail (w.heap.size + 1) (some ⟨w.heap.size, 0, none⟩) len len k _ t p ?_ ?_ ?_ ?_ ?_ hlen HK.out).mono ?_
  · go_simp
  · go_simp
  · go_simp
  · go_simp
  · go_simp
  rintro e w2 ⟨rfl, rfl⟩
  rcases HK.out with hk | hk
  · go_wp2_with (first | (go_at_call 8; go_in) | (go_at_call 13; go_in) | (go_at_call 9; go_in) | (go_at_call 10; go_in))
    go_ret
    exact ⟨rfl, b1.alloc (by omega) _⟩
  · have hk2 : ¬ k < 0 := by omega
    go_wp2_with (first | (go_at_call 8; go_in) | (go_at_call 13; go_in) | (go_at_call 9; go_in) | (go_at_call 10; go_in))
    go_ret
    exact ⟨rfl, b1.alloc (by omega) _⟩

set_option maxHeartbeats 1000000 in
theorem end_lt (b off len cap k : Nat) (zs : List Int) (w : World) (hlen : len ≤ 1048576) (hcap : len ≤ cap) (hc : ∀ i, i < len → w.cell? ⟨b, off + i, none⟩ = some (.int .u8 (zs[i]?.getD 0))) (hb : b < w.heap.size) (hk : k < len) :
    Calls Tryd.prog 4 #[.slice (some ⟨b, off, none⟩) len cap, .int .i64 k] w fun e w' => e = .returned (.bool true) ∧ Below w.heap.size w w' := by
  have H6 := hid (clone_pos b off len cap zs w hlen hc hb)
  have hn := eql_nil
  have HC := hid hc
  clear hc
  go_enter Tryd.func4, Tryd.ntmps4
  go_wp2_with (first | (go_at_call 6; refine H6.out.mono ?_; rintro e w1 ⟨rfl, r1, b1, z1⟩; clear H6) | (go_at_call 12; go_in) | (go_at_call 7; go_in) | (go_at_call 8; go_in) | (go_at_call 13; go_in) | (go_at_call 9; go_in) | (go_at_call 10; go_in) | (go_at_call 14; go_in))
  refine (same_pos w.heap.size 0 b off k _ _ (fun i => zs[i]?.getD 0) _ (by omega) ?_ ?_).mono ?_
  · intro i hi
    rw [Nat.zero_add]
    exact (((r1.alloc _).alloc _).alloc _).cell (by omega)
  · intro i hi
    exact cell_in HC.out hb (((b1.alloc (by omega) _).alloc (by simp; omega) _).alloc (by simp; omega) _) (by omega)
  rintro e w2 ⟨rfl, q, rfl⟩
  go_wp2_with (first | (go_at_call 9; go_in) | (go_at_call 10; go_in))
  refine (same_pos w.heap.size k b (off + k) (len - k) _ _ (fun i => zs[k + i]?.getD 0) _ (by omega) ?_ ?_).mono ?_
  · intro i hi
    exact (row_drewN q (((r1.alloc _).alloc _).alloc _)).cell (by omega)
  · intro i hi
    rw [Nat.add_assoc]
    exact cell_in HC.out hb (below_drewN (((b1.alloc (by omega) _).alloc (by simp; omega) _).alloc (by simp; omega) _) q) (by omega)
  rintro e w3 ⟨rfl, q', rfl⟩
  go_wp2_with (first | (go_at_call 9; go_in) | (go_at_call 10; go_in))
  go_ret
  exact ⟨rfl, below_drewN (((b1.alloc (by omega) _).alloc (by simp; omega) _).alloc (by simp; omega) _) _⟩

set_option maxHeartbeats 1000000 in
theorem end_eq (b off len cap : Nat) (zs : List Int) (w : World) (hlen : len ≤ 1048576) (hcap : len ≤ cap) (hc : ∀ i, i < len → w.cell? ⟨b, off + i, none⟩ = some (.int .u8 (zs[i]?.getD 0))) (hb : b < w.heap.size) :
    Calls Tryd.prog 4 #[.slice (some ⟨b, off, none⟩) len cap, .int .i64 len] w fun e w' => e = .returned (.bool true) ∧ Below w.heap.size w w' := by
  have H6 := hid (clone_pos b off len cap zs w hlen hc hb)
  have hn := eql_nil
  have HC := hid hc
  clear hc
  go_enter Tryd.func4, Tryd.ntmps4
  go_wp2_with (first | (go_at_call 6; refine H6.out.mono ?_; rintro e w1 ⟨rfl, r1, b1, z1⟩; clear H6) | (go_at_call 12; go_in) | (go_at_call 7; go_in) | (go_at_call 8; go_in) | (go_at_call 13; go_in) | (go_at_call 9; go_in) | (go_at_call 10; go_in) | (go_at_call 14; go_in))
  refine (same_pos w.heap.size 0 b off len _ _ (fun i => zs[i]?.getD 0) _ (by omega) ?_ ?_).mono ?_
  · intro i hi
    rw [Nat.zero_add]
    exact (r1.alloc _).cell (by omega)
  · intro i hi
    exact cell_in HC.out hb (b1.alloc (by omega) _) (by omega)
  rintro e w2 ⟨rfl, q, rfl⟩
  go_wp2_with (first | (go_at_call 9; go_in) | (go_at_call 10; go_in))
  all_goals
    refine (same_nil _ _ _ _ _).mono ?_
    rintro e w3 ⟨rfl, q', rfl⟩
    go_wp2_with (first | (go_at_call 9; go_in) | (go_at_call 10; go_in))
    go_ret
    exact ⟨rfl, below_drewN (b1.alloc (by omega) _) _⟩

set_option maxHeartbeats 1000000 in
theorem end_zero (a : Addr) (cap : Nat) (zs : List Int) (w : World) :
    Calls Tryd.prog 4 #[.slice (some a) 0 cap, .int .i64 0] w fun e w' => e = .returned (.bool true) ∧ Below w.heap.size w w' := by
  have H6 := hid (clone_zero a cap zs w)
  have hn := eql_nil
  go_enter Tryd.func4, Tryd.ntmps4
  go_wp2_with (first | (go_at_call 6; refine H6.out.mono ?_; rintro e w1 ⟨rfl, r1, b1, z1⟩; clear H6) | (go_at_call 12; go_in) | (go_at_call 7; go_in) | (go_at_call 8; go_in) | (go_at_call 13; go_in) | (go_at_call 9; go_in) | (go_at_call 10; go_in) | (go_at_call 14; go_in))
  refine (same_nil _ _ _ _ _).mono ?_
  rintro e w2 ⟨rfl, q, rfl⟩
  go_wp2_with (first | (go_at_call 9; go_in) | (go_at_call 10; go_in))
  all_goals
    refine (same_nil _ _ _ _ _).mono ?_
    rintro e w3 ⟨rfl, q', rfl⟩
    go_wp2_with (first | (go_at_call 9; go_in) | (go_at_call 10; go_in))
    go_ret
    exact ⟨rfl, below_drewN (b1.alloc (by omega) _) _⟩

set_option maxHeartbeats 1000000 in
theorem end_nil_zero (w : World) :
    Calls Tryd.prog 4 #[.slice none 0 0, .int .i64 0] w fun e w' => e = .returned (.bool true) ∧ Below w.heap.size w w' := by
  have H6 := hid clone_nil
  have hn := eql_nil
  go_enter Tryd.func4, Tryd.ntmps4
  go_wp2_with (first | (go_at_call 6; refine (H6.out _).mono ?_; rintro e w1 ⟨rfl, rfl⟩; clear H6) | (go_at_call 12; go_in) | (go_at_call 7; go_in) | (go_at_call 8; go_in) | (go_at_call 13; go_in) | (go_at_call 9; go_in) | (go_at_call 10; go_in) | (go_at_call 14; go_in))
  refine (same_nil _ _ _ _ _).mono ?_
  rintro e w2 ⟨rfl, q, rfl⟩
  go_wp2_with (first | (go_at_call 9; go_in) | (go_at_call 10; go_in))
  refine (same_nil _ _ _ _ _).mono ?_
  rintro e w3 ⟨rfl, q', rfl⟩
  go_wp2_with (first | (go_at_call 9; go_in) | (go_at_call 10; go_in))
  go_ret
  exact ⟨rfl, below_drewN ((Below.refl _ _).alloc (Nat.le_refl _) _) _⟩

set_option maxHeartbeats 1000000 in
theorem end_nil_out (k : Int) (w : World) (hk : k < 0 ∨ (0 : Int) < k)
    (t : TypeId) (p : Value) (he : w.cell? ⟨0, 0, none⟩ = some (.iface t p)) (h0 : 0 < w.heap.size) :
    Calls Tryd.prog 4 #[.slice none 0 0, .int .i64 k] w fun e w' => e = .returned (.bool true) ∧ Below w.heap.size w w' := by
  have H6 := hid clone_nil
  have hn := eql_nil
  have HK := hid hk
  clear hk
  go_enter Tryd.func4, Tryd.ntmps4
  go_wp2_with (first | (go_at_call 6; refine (H6.out _).mono ?_; rintro e w1 ⟨rfl, rfl⟩; clear H6) | (go_at_call 12; go_in) | (go_at_call 7; go_in))
  refine (take_fail _ none 0 0 k _ t p ?_ ?_ ?_ ?_ ?_ (by omega) HK.out).mono ?_
  · go_simp
  · go_simp
  · go_simp
  · go_simp
  · go_simp
  rintro e w2 ⟨rfl, rfl⟩
  rcases HK.out with hk | hk
  · go_wp2_with (first | (go_at_call 8; go_in) | (go_at_call 13; go_in) | (go_at_call 9; go_in) | (go_at_call 10; go_in))
    go_ret
    exact ⟨rfl, (Below.refl _ _).alloc (Nat.le_refl _) _⟩
  · have hk2 : ¬ k < 0 := by omega
    go_wp2_with (first | (go_at_call 8; go_in) | (go_at_call 13; go_in) | (go_at_call 9; go_in) | (go_at_call 10; go_in))
    go_ret
    exact ⟨rfl, (Below.refl _ _).alloc (Nat.le_refl _) _⟩

set_option maxHeartbeats 1000000 in
theorem end_big (v : Option Addr) (len cap : Nat) (k : Int) (w : World) (hlen : 1048576 < len) (hm : len ≤ 9223372036854775807) :
    Calls Tryd.prog 4 #[.slice v len cap, .int .i64 k] w fun e w' => e = .returned (.bool true) ∧ Below w.heap.size w w' := by
  go_enter Tryd.func4, Tryd.ntmps4
  go_wp2
  go_ret
  exact ⟨rfl, Below.refl _ _⟩
end Go.Proofs.Qxb6614394aDoor
