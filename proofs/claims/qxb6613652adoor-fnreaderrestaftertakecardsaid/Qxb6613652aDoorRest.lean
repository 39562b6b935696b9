/- The walk of FnReaderRestAfterTake. -/
import Derived.Test.Qxb6613652aDoorErr
import Derived.RegionTactic
import Derived.ChangeAlike
import Derived.BigRegion
namespace Go.Proofs.Qxb6613652aDoor
open Go.RowKit

set_option maxHeartbeats 1000000 in
theorem rest_some (R B o len : Nat) (w : World) (h0 : w.cell? ⟨R, 0, none⟩ = some (.slice (some ⟨B, o, none⟩) len len)) (h1 : w.cell? ⟨R, 1, none⟩ = some .nilIface) (hf : w.frozen? ⟨R, 0, none⟩ = false) :
    Calls Tryd.prog 15 #[.pointer (some ⟨R, 0, none⟩)] w fun e w' => e = .returned (.slice (some ⟨B, o, none⟩) len len) ∧ w' = (w.setCell ⟨R, 0, none⟩ (.slice (some ⟨B, o, none⟩) 0 0)).drew := by
  go_enter Tryd.func15, Tryd.ntmps15
  go_wp2
  go_region
  go_wp2
  go_ret
  exact ⟨rfl, rfl⟩
set_option maxHeartbeats 1000000 in
theorem rest_zero (R : Nat) (w : World) (h0 : w.cell? ⟨R, 0, none⟩ = some (.slice none 0 0)) (h1 : w.cell? ⟨R, 1, none⟩ = some .nilIface) (hf : w.frozen? ⟨R, 0, none⟩ = false) :
    Calls Tryd.prog 15 #[.pointer (some ⟨R, 0, none⟩)] w fun e w' => e = .returned (.slice none 0 0) ∧ w' = (w.setCell ⟨R, 0, none⟩ (.slice none 0 0)).drew := by
  go_enter Tryd.func15, Tryd.ntmps15
  go_wp2
  go_region
  go_wp2
  go_ret
  exact ⟨rfl, rfl⟩
theorem rest_err (R : Nat) (w : World) (t : TypeId) (p : Value) (h1 : w.cell? ⟨R, 1, none⟩ = some (.iface t p)) :
    Calls Tryd.prog 15 #[.pointer (some ⟨R, 0, none⟩)] w fun e w' => e = .returned (.slice none 0 0) ∧ w' = w := by
  go_enter Tryd.func15, Tryd.ntmps15
  go_wp2
  go_ret
  exact ⟨rfl, rfl⟩

set_option maxHeartbeats 1000000 in
theorem rst_lt (a : Addr) (len cap n : Nat) (zs : List Int) (w : World) (hlen : len ≤ 1048576) (hc : ∀ i, i < len → w.cell? (a.add i) = some (.int .u8 (zs[i]?.getD 0))) (hlt : n < len)
    (t : TypeId) (p : Value) (he : w.cell? ⟨0, 0, none⟩ = some (.iface t p)) (h0 : 0 < w.heap.size) :
    Calls Tryd.prog 5 #[.slice (some a) len cap, .int .u64 n] w fun e w' => e = .returned (.bool true) ∧ Below w.heap.size w w' := by
  have H7 := hid (fun w (h : _) => clone_any a len cap zs w hlen h)
  have hn := eql_nil
  have hq := neq_nil
  have HC := hid hc
  have hle : n ≤ len := by omega
  have hne : ¬ len = n := by omega
  clear hc
  go_enter Tryd.func5, Tryd.ntmps5
  go_wp2_with (first | (go_at_call 7; refine (H7.out _ HC.out).mono ?_; rintro e w1 ⟨rfl, r1, b1, z1⟩; have HC1 := hid (cells_later HC.out b1); clear HC) | (go_at_call 7; refine (H7.out _ HC1.out).mono ?_; rintro e w2 ⟨rfl, r2, b2, z2⟩; obtain ⟨r3, r4, b3, z3⟩ := two_clones r1 b1 z1 r2 b2 z2; have he1 := (b3.cell (p := ⟨0, 0, none⟩) h0).trans he; clear H7 HC1 r1 r2 b1 b2 z2) | (go_at_call 14; go_in) | (go_at_call 8; go_in) | (go_at_call 9; go_in) | (go_at_call 10; go_in) | (go_at_call 13; go_in))
  refine (rest_some (w.heap.size + 2) (w.heap.size + 1) n (len - n) _ ?_ ?_ ?_).mono ?_
  · go_simp
  · go_simp
  · go_simp
  rintro e w3 ⟨rfl, rfl⟩
  go_wp2_with (first | (go_at_call 9; go_in) | (go_at_call 13; go_in))
  refine (same_pos (w.heap.size + 1) n w.heap.size n (len - n) _ _ (fun i => zs[n + i]?.getD 0) _ (by omega) ?_ ?_).mono ?_
  · intro i hi
    exact (r4.alloc _).drew.cell (by omega)
  · intro i hi
    exact (r3.alloc _).drew.cell (by omega)
  rintro e w4 ⟨rfl, k, rfl⟩
  go_wp2_with (first | (go_at_call 9; go_in) | (go_at_call 13; go_in))
  refine (rest_some (w.heap.size + 2) (w.heap.size + 1) n 0 _ ?_ ?_ ?_).mono ?_
  · go_simp
  · go_simp
  · go_simp
  rintro e w5 ⟨rfl, rfl⟩
  go_wp2_with (first | (go_at_call 9; go_in) | (go_at_call 13; go_in))
  go_ret
  exact ⟨rfl, ((below_drewN (b3.alloc (by omega) _) _).setCell (by show w.heap.size ≤ w.heap.size + 2; omega) _).drew⟩

set_option maxHeartbeats 1000000 in
theorem rst_eq (a : Addr) (len cap : Nat) (zs : List Int) (w : World) (hlen : len ≤ 1048576) (hc : ∀ i, i < len → w.cell? (a.add i) = some (.int .u8 (zs[i]?.getD 0)))
    (t : TypeId) (p : Value) (he : w.cell? ⟨0, 0, none⟩ = some (.iface t p)) (h0 : 0 < w.heap.size) :
    Calls Tryd.prog 5 #[.slice (some a) len cap, .int .u64 len] w fun e w' => e = .returned (.bool true) ∧ Below w.heap.size w w' := by
  have H7 := hid (fun w (h : _) => clone_any a len cap zs w hlen h)
  have hn := eql_nil
  have hq := neq_nil
  have HC := hid hc
  clear hc
  go_enter Tryd.func5, Tryd.ntmps5
  go_wp2_with (first | (go_at_call 7; refine (H7.out _ HC.out).mono ?_; rintro e w1 ⟨rfl, r1, b1, z1⟩; have HC1 := hid (cells_later HC.out b1); clear HC) | (go_at_call 7; refine (H7.out _ HC1.out).mono ?_; rintro e w2 ⟨rfl, r2, b2, z2⟩; obtain ⟨r3, r4, b3, z3⟩ := two_clones r1 b1 z1 r2 b2 z2; have he1 := (b3.cell (p := ⟨0, 0, none⟩) h0).trans he; clear H7 HC1 r1 r2 b1 b2 z2) | (go_at_call 14; go_in) | (go_at_call 8; go_in) | (go_at_call 9; go_in) | (go_at_call 10; go_in) | (go_at_call 13; go_in))
  refine (rest_some (w.heap.size + 2) (w.heap.size + 1) 0 0 _ ?_ ?_ ?_).mono ?_
  · go_simp
  · go_simp
  · go_simp
  rintro e w3 ⟨rfl, rfl⟩
  go_wp2_with (first | (go_at_call 9; go_in) | (go_at_call 13; go_in))
  refine (same_nil _ _ _ _ _).mono ?_
  rintro e w4 ⟨rfl, k, rfl⟩
  go_wp2_with (first | (go_at_call 9; go_in) | (go_at_call 13; go_in))
  refine (rest_some (w.heap.size + 2) (w.heap.size + 1) 0 0 _ ?_ ?_ ?_).mono ?_
  · go_simp
  · go_simp
  · go_simp
  rintro e w5 ⟨rfl, rfl⟩
  go_wp2_with (first | (go_at_call 9; go_in) | (go_at_call 13; go_in))
  go_ret
  exact ⟨rfl, ((below_drewN (b3.alloc (by omega) _) _).setCell (by show w.heap.size ≤ w.heap.size + 2; omega) _).drew⟩

set_option maxHeartbeats 1000000 in
theorem rst_gt (a : Addr) (len cap n : Nat) (zs : List Int) (w : World) (hlen : len ≤ 1048576) (hc : ∀ i, i < len → w.cell? (a.add i) = some (.int .u8 (zs[i]?.getD 0))) (hgt : len < n)
    (t : TypeId) (p : Value) (he : w.cell? ⟨0, 0, none⟩ = some (.iface t p)) (h0 : 0 < w.heap.size) :
    Calls Tryd.prog 5 #[.slice (some a) len cap, .int .u64 n] w fun e w' => e = .returned (.bool true) ∧ Below w.heap.size w w' := by
  have H7 := hid (fun w (h : _) => clone_any a len cap zs w hlen h)
  have hn := eql_nil
  have hq := neq_nil
  have HC := hid hc
  clear hc
  go_enter Tryd.func5, Tryd.ntmps5
  go_wp2_with (first | (go_at_call 7; refine (H7.out _ HC.out).mono ?_; rintro e w1 ⟨rfl, r1, b1, z1⟩; have HC1 := hid (cells_later HC.out b1); clear HC) | (go_at_call 7; refine (H7.out _ HC1.out).mono ?_; rintro e w2 ⟨rfl, r2, b2, z2⟩; obtain ⟨r3, r4, b3, z3⟩ := two_clones r1 b1 z1 r2 b2 z2; have he1 := (b3.cell (p := ⟨0, 0, none⟩) h0).trans he; clear H7 HC1 r1 r2 b1 b2 z2) | (go_at_call 14; go_in) | (go_at_call 8; go_in) | (go_at_call 9; go_in) | (go_at_call 10; go_in) | (go_at_call 13; go_in))
  refine (rest_err (w.heap.size + 2) _ t p ?_).mono ?_
  · go_simp
  rintro e w3 ⟨rfl, rfl⟩
  go_wp2_with (first | (go_at_call 9; go_in) | (go_at_call 13; go_in))
  refine (rest_err (w.heap.size + 2) _ t p ?_).mono ?_
  · go_simp
  rintro e w4 ⟨rfl, rfl⟩
  go_wp2_with fail
  go_ret
  exact ⟨rfl, b3.alloc (by omega) _⟩

set_option maxHeartbeats 1000000 in
theorem rst_big (v : Option Addr) (len cap n : Nat) (w : World) (hlen : 1048576 < len) (hm : len ≤ 9223372036854775807) :
    Calls Tryd.prog 5 #[.slice v len cap, .int .u64 n] w fun e w' => e = .returned (.bool true) ∧ Below w.heap.size w w' := by
  go_enter Tryd.func5, Tryd.ntmps5
  go_wp2
  go_ret
  exact ⟨rfl, Below.refl _ _⟩

set_option maxHeartbeats 1000000 in
theorem rst_nil_gt (n : Nat) (w : World) (t : TypeId) (p : Value) (he : w.cell? ⟨0, 0, none⟩ = some (.iface t p)) (h0 : 0 < w.heap.size) (hn0 : 0 < n) :
    Calls Tryd.prog 5 #[.slice none 0 0, .int .u64 n] w fun e w' => e = .returned (.bool true) ∧ Below w.heap.size w w' := by
  have H7 := hid clone_nil
  have hn := eql_nil
  have hq := neq_nil
  go_enter Tryd.func5, Tryd.ntmps5
  go_wp2_with (first | (go_at_call 7; refine (H7.out _).mono ?_; rintro e w1 ⟨rfl, rfl⟩) | (go_at_call 14; go_in) | (go_at_call 8; go_in) | (go_at_call 9; go_in) | (go_at_call 10; go_in))
  refine (rest_err _ _ t p ?_).mono ?_
  · go_simp
  rintro e w3 ⟨rfl, rfl⟩
  go_wp2_with (first | (go_at_call 9; go_in) | (go_at_call 13; go_in))
  refine (rest_err _ _ t p ?_).mono ?_
  · go_simp
  rintro e w4 ⟨rfl, rfl⟩
  go_wp2_with fail
  go_ret
  exact ⟨rfl, (Below.refl _ _).alloc (Nat.le_refl _) _⟩

set_option maxHeartbeats 1000000 in
theorem rst_nil_zero (w : World) :
    Calls Tryd.prog 5 #[.slice none 0 0, .int .u64 0] w fun e w' => e = .returned (.bool true) ∧ Below w.heap.size w w' := by
  have H7 := hid clone_nil
  have hn := eql_nil
  have hq := neq_nil
  go_enter Tryd.func5, Tryd.ntmps5
  go_wp2_with (first | (go_at_call 7; refine (H7.out _).mono ?_; rintro e w1 ⟨rfl, rfl⟩) | (go_at_call 14; go_in) | (go_at_call 8; go_in) | (go_at_call 9; go_in) | (go_at_call 10; go_in))
  refine (rest_zero _ _ ?_ ?_ ?_).mono ?_
  · go_simp
  · go_simp
  · go_simp
  rintro e w3 ⟨rfl, rfl⟩
  go_wp2_with (first | (go_at_call 9; go_in) | (go_at_call 13; go_in))
  refine (same_nil _ _ _ _ _).mono ?_
  rintro e w4 ⟨rfl, k, rfl⟩
  go_wp2_with (first | (go_at_call 9; go_in) | (go_at_call 13; go_in))
  refine (rest_zero _ _ ?_ ?_ ?_).mono ?_
  · go_simp
  · go_simp
  · go_simp
  rintro e w5 ⟨rfl, rfl⟩
  go_wp2_with (first | (go_at_call 9; go_in) | (go_at_call 13; go_in))
  go_ret
  exact ⟨rfl, ((below_drewN ((Below.refl _ _).alloc (Nat.le_refl _) _) _).setCell (Nat.le_refl _) _).drew⟩
end Go.Proofs.Qxb6613652aDoor
