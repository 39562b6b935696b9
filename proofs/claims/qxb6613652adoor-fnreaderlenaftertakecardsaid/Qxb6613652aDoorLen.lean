/- The walk of FnReaderLenAfterTake. -/
import Derived.Test.Qxb6613652aDoorClone
namespace Go.Proofs.Qxb6613652aDoor
open Go.RowKit

set_option maxHeartbeats 1000000 in
theorem len_le (a : Addr) (len cap n : Nat) (zs : List Int) (w : World) (hlen : len ≤ 1048576) (hc : ∀ i, i < len → w.cell? (a.add i) = some (.int .u8 (zs[i]?.getD 0))) (hle : n ≤ len) :
    Calls Tryd.prog 4 #[.slice (some a) len cap, .int .u64 n] w fun e w' => e = .returned (.bool true) ∧ Below w.heap.size w w' := by
  have H7 := hid (fun w (h : _) => clone_any a len cap zs w hlen h)
  have hn := eql_nil
  have HC := hid hc
  clear hc
  go_enter Tryd.func4, Tryd.ntmps4
  go_wp2_with (first | (go_at_call 7; refine (H7.out _ HC.out).mono ?_; rintro e w1 ⟨rfl, hrow, hbel, hsz⟩; clear H7 HC) | go_in)
  all_goals
    go_ret
    exact ⟨rfl, hbel.alloc (by omega) _⟩

set_option maxHeartbeats 1000000 in
theorem len_gt (a : Addr) (len cap n : Nat) (zs : List Int) (w : World) (hlen : len ≤ 1048576) (hc : ∀ i, i < len → w.cell? (a.add i) = some (.int .u8 (zs[i]?.getD 0))) (hgt : len < n)
    (t : TypeId) (p : Value) (he : w.cell? ⟨0, 0, none⟩ = some (.iface t p)) (h0 : 0 < w.heap.size) :
    Calls Tryd.prog 4 #[.slice (some a) len cap, .int .u64 n] w fun e w' => e = .returned (.bool true) ∧ Below w.heap.size w w' := by
  have H7 := hid (fun w (h : _) => clone_any a len cap zs w hlen h)
  have hn := eql_nil
  have HC := hid hc
  clear hc
  go_enter Tryd.func4, Tryd.ntmps4
  go_wp2_with (first | (go_at_call 7; refine (H7.out _ HC.out).mono ?_; rintro e w1 ⟨rfl, hrow, hbel, hsz⟩; clear H7 HC; have he1 := (hbel.cell (p := ⟨0, 0, none⟩) h0).trans he) | go_in)
  all_goals
    go_ret
    exact ⟨rfl, hbel.alloc (by omega) _⟩

set_option maxHeartbeats 1000000 in
theorem len_nil (n : Nat) (w : World) (t : TypeId) (p : Value) (he : w.cell? ⟨0, 0, none⟩ = some (.iface t p)) (h0 : 0 < w.heap.size) :
    Calls Tryd.prog 4 #[.slice none 0 0, .int .u64 n] w fun e w' => e = .returned (.bool true) ∧ Below w.heap.size w w' := by
  have H7 := hid clone_nil
  have hn := eql_nil
  by_cases hz : n = 0
  · subst hz
    go_enter Tryd.func4, Tryd.ntmps4
    go_wp2_with (first | (go_at_call 7; refine (H7.out _).mono ?_; rintro e w1 ⟨rfl, rfl⟩; clear H7) | go_in)
    all_goals
      go_ret
      exact ⟨rfl, (Below.refl _ _).alloc (Nat.le_refl _) _⟩
  · have hp : 0 < n := by omega
    clear hz
    go_enter Tryd.func4, Tryd.ntmps4
    go_wp2_with (first | (go_at_call 7; refine (H7.out _).mono ?_; rintro e w1 ⟨rfl, rfl⟩; clear H7) | go_in)
    all_goals
      go_ret
      exact ⟨rfl, (Below.refl _ _).alloc (Nat.le_refl _) _⟩

set_option maxHeartbeats 1000000 in
theorem len_big (v : Option Addr) (len cap n : Nat) (w : World) (hlen : 1048576 < len) (hm : len ≤ 9223372036854775807) :
    Calls Tryd.prog 4 #[.slice v len cap, .int .u64 n] w fun e w' => e = .returned (.bool true) ∧ Below w.heap.size w w' := by
  go_enter Tryd.func4, Tryd.ntmps4
  go_wp2
  go_ret
  exact ⟨rfl, Below.refl _ _⟩
end Go.Proofs.Qxb6613652aDoor
