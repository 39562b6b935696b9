/- The walks of zzCopyBytes and zzSameBytes. -/
import Derived.Test.Qxb6614394aDoorRows
import Derived.WalkKit
import Derived.WalkSpells
import Derived.WalkLawsBesides
import Derived.Deep.OwnRows
import Derived.Deep.QuietTactic
import Derived.BigQuiet
namespace Go.Proofs.Qxb6614394aDoor
open Go.RowKit

theorem hid {p : Prop} (h : p) : Hid p := h
theorem info5 : (Tryd.prog.info? 5).map (fun i => (i.zero, i.size, i.bytes)) = some (some (.int .u8 0), 1, 1) := by kernel_rfl

/-- The clone's row behind k rounds. -/
def part (zs : List Int) (k : Nat) (j : Nat) : Value := if j < k then .int .u8 (zs[j]?.getD 0) else .int .u8 0

theorem eql_nil (w : World) (a : Option Addr) (n c : Nat) : (binOp .eql 22 (.slice a n c) (.slice none 0 0)).run Tryd.prog w = .ok (.bool a.isNone) w := Lib.run_eql_slice_nil w 22 5 a n c 0 0 Tryd.underlying22
theorem neq_nil (w : World) (a : Option Addr) (n c : Nat) : (binOp .neq 22 (.slice a n c) (.slice none 0 0)).run Tryd.prog w = .ok (.bool (!a.isNone)) w := run_neq_slice_nil_any w 22 5 a n c 0 0 Tryd.underlying22

set_option maxHeartbeats 400000 in
theorem clone_nil (w : World) : Calls Tryd.prog 6 #[.slice none 0 0] w fun e w' => e = .returned (.slice none 0 0) ∧ w' = w := by
  have hn := eql_nil
  go_enter Tryd.func6, Tryd.ntmps6
  go_wp2
  go_ret
  exact ⟨rfl, rfl⟩

theorem part_zero (zs : List Int) : part zs 0 = fun _ => .int .u8 0 := by funext j; simp [part]
theorem part_step (zs : List Int) (k : Nat) : (fun j => if j = k then Value.int .u8 (zs[k]?.getD 0) else part zs k j) = part zs (k + 1) := by
  funext j
  unfold part
  by_cases h : j = k
  · subst h; simp
  · rw [if_neg h]
    by_cases h2 : j < k
    · rw [if_pos h2, if_pos (by omega)]
    · rw [if_neg h2, if_neg (by omega)]

set_option maxHeartbeats 400000 in
theorem clone_pos (b off len cap : Nat) (zs : List Int) (w : World) (hlen : len ≤ 1048576) (hc : ∀ i, i < len → w.cell? ⟨b, off + i, none⟩ = some (.int .u8 (zs[i]?.getD 0))) (hb : b < w.heap.size) :
    Calls Tryd.prog 6 #[.slice (some ⟨b, off, none⟩) len cap] w fun e w' => e = .returned (.slice (some ⟨w.heap.size, 0, none⟩) len len) ∧ w'.rowIs w.heap.size 5 len (fun j => .int .u8 (zs[j]?.getD 0)) ∧ Below w.heap.size w w' ∧ w'.heap.size = w.heap.size + 1 := by
  have hmk := fun w => run_make_row' (P := Tryd.prog) 22 5 (.int .u8 0) 1 Tryd.underlying22 info5 rfl .i64 .i64 len (by omega) (by omega) w
  have hn := eql_nil
  go_enter Tryd.func6, Tryd.ntmps6
  go_wp2
  go_loopw [4] (fun i wr => ∃ k : Nat, k ≤ len ∧ i = .int .i64 k ∧ wr.rowIs w.heap.size 5 len (part zs k) ∧ Below w.heap.size w wr ∧ wr.heap.size = w.heap.size + 1) (fun i _ => len - (intOf i).toNat)
  case atStart => exact ⟨0, Nat.zero_le _, rfl, by rw [part_zero]; exact World.rowIs_made _ _ _ _, (Below.refl _ _).alloc (Nat.le_refl _) _, by simp⟩
  case round =>
    obtain ⟨k, hk, rfl, hrow, hbel, hsz⟩ := hrel
    clear hmk hn
    by_cases hlt : k < len
    · have hcx := (hbel.cell (p := ⟨b, off + k, none⟩) hb).trans (hc k hlt)
      have hfz := hrow.frozen k
      have hold := hrow.cell hlt
      have HR := hid (hrow.set k (.int .u8 (zs[k]?.getD 0)))
      have HB : Hid (Below w.heap.size w (wr.setCell ⟨w.heap.size, k, none⟩ (.int .u8 (zs[k]?.getD 0)))) := hbel.setCell (Nat.le_refl _) _
      have HS := hid hsz
      clear hrow hbel hsz hc
      go_wp2
      go_roundw
      case rel => exact ⟨k + 1, by omega, by go_num, by rw [← part_step]; exact HR.out, HB.out, by simpa [World.setCell] using HS.out⟩
      case measure => simp [intOf]; omega
    · obtain rfl : k = len := by omega
      have HR := hid (hrow.congr (g := fun j => .int .u8 (zs[j]?.getD 0)) (fun i hi => by simp [part, hi]))
      have HB := hid hbel
      have HS := hid hsz
      clear hrow hbel hsz hc
      go_wp2
      go_ret
      exact ⟨rfl, HR.out, HB.out, HS.out⟩

set_option maxHeartbeats 400000 in
theorem clone_zero (a : Addr) (cap : Nat) (zs : List Int) (w : World) :
    Calls Tryd.prog 6 #[.slice (some a) 0 cap] w fun e w' => e = .returned (.slice (some ⟨w.heap.size, 0, none⟩) 0 0) ∧ w'.rowIs w.heap.size 5 0 (fun j => .int .u8 (zs[j]?.getD 0)) ∧ Below w.heap.size w w' ∧ w'.heap.size = w.heap.size + 1 := by
  have hmk : ∀ w : World, (Instr.makeSlice 22 (.int .i64 0) (.int .i64 0)).run Tryd.prog w = .ok (.slice (some ⟨w.heap.size, 0, none⟩) 0 0) (w.alloc (.cells (madeCells #[.int .u8 0] 0) 5)) := fun w => run_make_row' (P := Tryd.prog) 22 5 (.int .u8 0) 1 Tryd.underlying22 info5 rfl .i64 .i64 0 (by omega) (by omega) w
  have hn := eql_nil
  go_enter Tryd.func6, Tryd.ntmps6
  go_wp2
  refine wp_loop_rounds 1 ?_
  rw [rounds_succ]
  go_wp2
  go_ret
  refine ⟨rfl, ?_, (Below.refl _ _).alloc (Nat.le_refl _) _, by simp⟩
  exact (World.rowIs_made w (.int .u8 0) 0 5).congr (fun i hi => by omega)

/-- Any slice of bytes that is not nil. -/
theorem clone_any (a : Addr) (len cap : Nat) (zs : List Int) (w : World) (hlen : len ≤ 1048576) (hc : ∀ i, i < len → w.cell? (a.add i) = some (.int .u8 (zs[i]?.getD 0))) :
    Calls Tryd.prog 6 #[.slice (some a) len cap] w fun e w' => e = .returned (.slice (some ⟨w.heap.size, 0, none⟩) len len) ∧ w'.rowIs w.heap.size 5 len (fun j => .int .u8 (zs[j]?.getD 0)) ∧ Below w.heap.size w w' ∧ w'.heap.size = w.heap.size + 1 := by
  by_cases h0 : len = 0
  · subst h0
    exact clone_zero a cap zs w
  · obtain ⟨b, off, spot⟩ := a
    have hspot : spot = none := by simpa [Addr.add] using World.cell?_spot (hc 0 (by omega))
    subst hspot
    refine clone_pos b off len cap zs w hlen (fun i hi => by rw [← Go.WideShapes.add_plain]; exact hc i hi) ?_
    have h := hc 0 (by omega)
    simp only [Addr.add, if_true, World.cell?] at h
    apply Decidable.byContradiction
    intro hn
    rw [Array.getElem?_eq_none (by simpa using hn)] at h
    cases h

/-- zzSameBytes at two slices that hold the same bytes. -/
theorem same_nil (p q : Option Addr) (c d : Nat) (w : World) : Calls Tryd.prog 11 #[.slice p 0 c, .slice q 0 d] w fun e w' => e = .returned (.bool true) ∧ ∃ n, w' = w.drewN n := by
  go_enter Tryd.func11, Tryd.ntmps11
  go_wp2
  refine wp_loop_rounds 1 ?_
  rw [rounds_succ]
  go_wp2
  go_ret
  exact ⟨rfl, 0, rfl⟩

set_option maxHeartbeats 400000 in
theorem same_pos (b1 o1 b2 o2 len c1 c2 : Nat) (f : Nat → Int) (w : World) (hlen : len ≤ 1048576) (h1 : ∀ i, i < len → w.cell? ⟨b1, o1 + i, none⟩ = some (.int .u8 (f i))) (h2 : ∀ i, i < len → w.cell? ⟨b2, o2 + i, none⟩ = some (.int .u8 (f i))) :
    Calls Tryd.prog 11 #[.slice (some ⟨b1, o1, none⟩) len c1, .slice (some ⟨b2, o2, none⟩) len c2] w fun e w' => e = .returned (.bool true) ∧ ∃ n, w' = w.drewN n := by
  go_enter Tryd.func11, Tryd.ntmps11
  go_wp2
  go_loopw [5] (fun i wr => ∃ k : Nat, k ≤ len ∧ i = .int .i64 k ∧ ∃ n, wr = w.drewN n) (fun i _ => len - (intOf i).toNat)
  case atStart => exact ⟨0, Nat.zero_le _, rfl, 0, rfl⟩
  case round =>
    obtain ⟨k, hk, rfl, n, rfl⟩ := hrel
    by_cases hlt : k < len
    · have e1 := h1 k hlt
      have e2 := h2 k hlt
      have hlt' : (k : Int) < (len : Int) := by omega
      clear h1 h2
      go_wp2
      go_quiet (fail)
      go_wp2
      go_roundw
      case rel => exact ⟨k + 1, by omega, by go_num, n + nq, rfl⟩
      case measure => simp [intOf]; omega
    · go_wp2
      go_ret
      exact ⟨rfl, n, rfl⟩
end Go.Proofs.Qxb6614394aDoor
