/- What the listed variable gives the walks: the sentinel's cell. The start that fits: the heap that the door's own run leaves. How a slice of bytes among the arguments is opened. -/
import Derived.Test.Qxb6614394aDoorRows
import Derived.ProofKit
import Derived.LaidMore
import Derived.Below
import Derived.Stop.Joined
import Derived.Stop.LaidErr
namespace Go.Proofs.Qxb6614394aDoor
open Go.ChangeShapes Go.WideShapes Go.ChangeAt Go.RowKit

theorem own : ownKnob Tryd.prog.godebug = none := by kernel_rfl
theorem laidOut : laidOutB Tryd.prog = true := by kernel_rfl
def nameIn : DataW Unit → String
  | .iface n _ => n
  | _ => ""
def errName : String := nameIn Rows.laid_example_com_portcullis_portcullis_internal_wire_errShort
def bareName : String := "errors.errorString"
def vname : String := Rows.fnReaderEndReadsNothingSpec.vars.headD ""
def laid1 : List (String × DataW Unit) := Rows.fnReaderEndReadsNothingRow.laid
theorem gE : Tryd.prog.globalNamed vname = some 0 := by kernel_rfl
theorem tE : (Tryd.prog.globals[0]?).map (·.type) = some 29 := by kernel_rfl
theorem cells40 : Tryd.prog.cellsOf 40 = 1 := by kernel_rfl
theorem cells9 : Tryd.prog.cellsOf 9 = 1 := by kernel_rfl
theorem row38 (u : TypeId) (h : Tryd.prog.typeName? 3 u = some errName) : u = 38 :=
  typeName_ptr_named (nm := bareName) (by kernel_rfl) (by kernel_rfl) (by decide) u h

theorem door_met (os : Os) (args : Array Value) : laidMetH Tryd.prog laid1 ((World.doorLaid Tryd.prog 100 os).forCall (fun _ _ => 0) ⟨#[], args, []⟩).memory :=
  laidMetH_of_parts3 (fuel := 8) (laidMet_of_run' 8 (by kernel_rfl) (by kernel_rfl)) (by kernel_rfl) (by kernel_rfl)

/-- The sentinel. -/
theorem of_laid {W : World} (h : laidMetH Tryd.prog laid1 W) : ∃ a, W.var? Tryd.prog vname = some #[.iface 38 (.pointer (some a))] ∧ W.cell? ⟨0, 0, none⟩ = some (.iface 38 (.pointer (some a))) ∧ 0 < W.heap.size := by
  rw [MakeChecks.laidMetH_plain _ _ _ (by kernel_rfl)] at h
  have h3 : laidMet Tryd.prog [(vname, Rows.laid_example_com_portcullis_portcullis_internal_wire_errShort)] W := h
  obtain ⟨a, s0, hv0, -, -, -⟩ := laid_sentinel h3 gE tE Tryd.underlying29 row38 Tryd.underlying38 Tryd.underlying40 rfl rfl Tryd.underlying9 cells40 cells9
  have h0 : W.cell? ⟨0, 0, none⟩ = some (.iface 38 (.pointer (some a))) := by have h0 := World.var?_cell gE hv0 0; simpa using h0
  refine ⟨a, hv0, h0, ?_⟩
  apply Decidable.byContradiction
  intro hn
  simp only [World.cell?] at h0
  rw [Array.getElem?_eq_none (by simpa using hn)] at h0
  cases h0

/-- A slice of bytes: nil, or its cells. -/
def BytesAt (W : World) (a : Option Addr) (len cap : Nat) (zs : List Int) : Prop :=
  (a = none ∧ len = 0 ∧ cap = 0) ∨ ∃ x, a = some x ∧ len ≤ cap ∧ len ≤ 9223372036854775807 ∧ ∀ i, i < len → W.cell? (x.add i) = some (.int .u8 (zs[i]?.getD 0))
theorem open_bytes {H : Type} {enc : TypeId × Value → H} {W : World} {a : Option Addr} {len cap : Nat} {d : DataW H} {ps : List MemPlace}
    (h : DataW.Trod enc Tryd.prog W 0 (fun _ => true) true 22 (.slice a len cap) d ps) : ∃ zs, BytesAt W a len cap zs := by
  obtain ⟨fuel, hf⟩ := h
  rcases open_ints Tryd.underlying22 Tryd.underlying5 (by kernel_rfl) hf with ⟨hcs, _⟩ | ⟨x, l, c, zs, hcs, _, hl, hm, hz, _, hcell, hwz⟩
  · simp [Value.cells] at hcs
    obtain ⟨rfl, rfl, rfl⟩ := hcs
    exact ⟨[], .inl ⟨rfl, rfl, rfl⟩⟩
  · simp [Value.cells] at hcs
    obtain ⟨rfl, rfl, rfl⟩ := hcs
    refine ⟨zs, .inr ⟨_, rfl, hl, by unfold maxLen at hm; omega, fun i hi => ?_⟩⟩
    have := hcell i (by simp at hz; omega)
    rwa [List.getD_eq_getElem?_getD] at this
/-- Where there is a byte, the address is plain. -/
theorem plain_of {W : World} {x : Addr} {len : Nat} {zs : List Int} (h : ∀ i, i < len → W.cell? (x.add i) = some (.int .u8 (zs[i]?.getD 0))) (hp : 0 < len) :
    ∃ b off, x = ⟨b, off, none⟩ ∧ b < W.heap.size ∧ ∀ i, i < len → W.cell? ⟨b, off + i, none⟩ = some (.int .u8 (zs[i]?.getD 0)) := by
  obtain ⟨b, off, spot⟩ := x
  have hspot : spot = none := by simpa [Addr.add] using World.cell?_spot (h 0 hp)
  subst hspot
  refine ⟨b, off, rfl, ?_, fun i hi => by rw [← Go.WideShapes.add_plain]; exact h i hi⟩
  have h := h 0 hp
  simp only [Addr.add, if_true, World.cell?] at h
  apply Decidable.byContradiction
  intro hn
  rw [Array.getElem?_eq_none (by simpa using hn)] at h
  cases h
end Go.Proofs.Qxb6614394aDoor
