/- (*store.Batch).Add. -/
import Derived.Test.Qxb6614322aFmtCheck
import Derived.Maps.Own
import Derived.Maps.OwnOps
import Derived.Maps.OwnSet
import Derived.Maps.Views
import Derived.Maps.AppendAt
import Derived.Deep.QuietTactic
import Derived.BigQuiet
import Derived.RegionTactic
import Derived.ChangeAlike
import Derived.BigRegion
namespace Go.Proofs.Qxb6614322aFmt
open Go.RowKit Go.Extern.Stop Go.Stop Go.Extern Go.Maps
attribute [local go_sem] call23 fguard fmt1 fmt1r fmt2 fmt2r op113 op115

theorem law9 : Keyed Tryf.prog 9 := string_keyed Tryf.underlying9
theorem zero4 (w : World) : (zeroValue 4).run Tryf.prog w = .ok (.bool false) w := by kernel_rfl
theorem zero3 (w : World) : (zeroValue 3).run Tryf.prog w = .ok (.int .i64 0) w := by kernel_rfl
theorem key9 {s : ByteArray} (hs : s.size ≤ maxLen) : keyOf Tryf.prog 9 (.string s) = some (.string s.data.toList) := WideMaps.keyOf_string_mk Tryf.underlying9 hs

/-- What a map of strings to bools says of each key. -/
def BoolAt (D : DataW Unit) (f : List UInt8 → Bool) : Prop := ∀ l : List UInt8, D.atKey (.string l) (.lit (.bool false)) = .lit (.bool (f l))

theorem bool_inv {v : Value} {z : DataW Unit × List MemPlace} (h : plainElem Tryf.prog 4 v = some z) : ∃ x, v = .bool x ∧ z = (.lit (.bool x), []) := by
  unfold plainElem at h
  rw [Tryf.underlying4] at h
  cases v <;> simp at h
  exact ⟨_, rfl, h.symm⟩

/-- A look-up in a map[string]bool, in every later world that has the block. -/
theorem look_bool {w : World} {b n : Nat} {D : DataW Unit} {f : List UInt8 → Bool} (h : w.ownsMap Tryf.prog 9 (plainElem Tryf.prog 4) b n D) (hf : BoolAt D f) {s : ByteArray} (hs : s.size ≤ maxLen) :
    (Instr.lookup 30 (.map (some b)) (.string s) false).run Tryf.prog w = .ok (.bool (f s.data.toList)) w := by
  obtain ⟨v, ps, hrun, hv⟩ := h.lookup law9 Tryf.underlying30 (zero4 w) (plainElem_bool Tryf.underlying4 false) (key9 hs)
  obtain ⟨x, rfl, hx⟩ := bool_inv hv
  simp only [Prod.mk.injEq] at hx
  rw [hf] at hx
  have : f s.data.toList = x := by simpa using hx.1
  rw [this]; exact hrun

theorem map_later {w w' : World} {k : TypeId} {R : Value → Option (DataW Unit × List MemPlace)} {b n : Nat} {D : DataW Unit} (h : w.ownsMap Tryf.prog k R b n D) (e : w'.heap[b]? = w.heap[b]?) : w'.ownsMap Tryf.prog k R b n D := by
  obtain ⟨es, clock, hb, F, hs, hD⟩ := h
  exact ⟨es, clock, e.trans hb, F, hs, hD⟩
theorem cell_old {w : World} {o : Obj} {a : Addr} (h : a.block < w.heap.size) : (w.alloc o).cell? a = w.cell? a := ((Below.refl w.heap.size w).alloc (Nat.le_refl _) o).cell h
theorem blk_old {w : World} {o : Obj} {k : Nat} (h : k < w.heap.size) : (w.alloc o).heap[k]? = w.heap[k]? := Below.heap_alloc w o k h

set_option maxHeartbeats 400000 in
theorem batch_bad (F : Interp) (L : Nat) (id own : ByteArray) (rs : Option Addr) (m c : Nat) (lab keep : Int) (w : World) (hF : F.answers w.tape) (hs : id.size ≤ maxLen) (hv : validB id.data.toList = false) :
    Calls Tryf.prog 20 #[.pointer (some ⟨L, 0, none⟩), .agg #[.string id, .slice rs m c, .int .u8 lab, .string own], .int .u8 keep] w fun e w' => (∃ p, e = .returned (.iface 73 p)) ∧ Below w.heap.size w w' := by
  have HV := hid hv
  clear hv
  go_enter Tryf.func20, Tryf.ntmps20
  go_wp2_with fail
  refine (check_bad F _ id _ (by exact hF) hs HV.out).mono ?_
  rintro e w1 ⟨⟨p, rfl⟩, b1⟩
  go_wp2_with fail
  go_ret
  exact ⟨⟨p, rfl⟩, ((Below.refl _ _).alloc (Nat.le_refl _) _).trans (b1.mono (by simp))⟩

set_option maxHeartbeats 1000000 in
theorem batch_dup (F : Interp) (L bm n : Nat) (D : DataW Unit) (f : List UInt8 → Bool) (id own : ByteArray) (rs : Option Addr) (m c : Nat) (lab keep : Int) (w : World) (hF : F.answers w.tape) (hs : id.size ≤ maxLen) (hv : validB id.data.toList = true)
    (hL : L < w.heap.size) (hc : w.cell? ⟨L, 2, none⟩ = some (.map (some bm))) (hm : w.ownsMap Tryf.prog 9 (plainElem Tryf.prog 4) bm n D) (hf : BoolAt D f) (hd : f id.data.toList = true) :
    Calls Tryf.prog 20 #[.pointer (some ⟨L, 0, none⟩), .agg #[.string id, .slice rs m c, .int .u8 lab, .string own], .int .u8 keep] w fun e w' => (∃ p, e = .returned (.iface 73 p)) ∧ Below w.heap.size w w' := by
  have HV := hid hv
  have HD := hid hd
  have HM := hid hm
  have HF := hid hf
  clear hv hd hm hf
  go_enter Tryf.func20, Tryf.ntmps20
  go_wp2_with fail
  refine (check_ok _ id _ hs HV.out).mono ?_
  rintro e w1 ⟨rfl, b1⟩
  have hF1 : F.answers w1.tape := by rw [b1.tape]; exact hF
  have hc1 : w1.cell? ⟨L, 2, none⟩ = some (.map (some bm)) := (b1.cell (p := ⟨L, 2, none⟩) (by simp; omega)).trans ((cell_old (a := ⟨L, 2, none⟩) hL).trans hc)
  have hi1 : w1.cell? ⟨w.heap.size, 0, none⟩ = some (.string id) := (b1.cell (p := ⟨w.heap.size, 0, none⟩) (by simp)).trans (by simp)
  have hlk : ∀ k, (Instr.lookup 30 (.map (some bm)) (.string id) false).run Tryf.prog (w1.drewN k) = .ok (.bool true) (w1.drewN k) := fun k => by
    have hm1 : (w1.drewN k).ownsMap Tryf.prog 9 (plainElem Tryf.prog 4) bm n D := map_later HM.out ((b1.block bm (by have := HM.out.lt; simp; omega)).trans (blk_old HM.out.lt))
    have := look_bool hm1 HF.out hs
    rwa [HD.out] at this
  go_wp2_with fail
  go_quiet (fail)
  have b2 : Below w.heap.size w (w1.drewN nq) := below_drewN (((Below.refl _ _).alloc (Nat.le_refl _) _).trans (b1.mono (by simp))) nq
  have hF2 : F.answers (w1.drewN nq).tape := hF1
  have hi2 : (w1.drewN nq).cell? ⟨w.heap.size, 0, none⟩ = some (.string id) := hi1
  have hsz : w.heap.size < (w1.drewN nq).heap.size := by have := b1.size; simp at this; simp; omega
  generalize w1.drewN nq = W at *
  clear hlk hc1 hi1 hF1 b1 HM HF HD hF
  have hF' := answers_open hF2
  have B2 := hid b2
  clear b2
  go_wp2
  go_ret
  exact ⟨⟨_, rfl⟩, ((B2.out.alloc B2.out.size _).alloc (by have := B2.out.size; simp; omega) _).drew⟩
end Go.Proofs.Qxb6614322aFmt
