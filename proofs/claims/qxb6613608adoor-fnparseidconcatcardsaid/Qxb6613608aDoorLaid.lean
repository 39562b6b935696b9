/- What the listed variables give the walks: the two sentinels' cells. And the start that fits: the heap that the door's own run leaves. -/
import Derived.Test.Qxb6613608aDoorRows
import Derived.ProofKit
import Derived.LaidMore
import Derived.Stop.Joined
import Derived.Stop.LaidErr
namespace Go.Proofs.Qxb6613608aDoor
open Go.ChangeShapes Go.WideShapes Go.ChangeAt Go.RowKit

theorem own : ownKnob Tryd.prog.godebug = none := by kernel_rfl
def nameIn : DataW Unit → String
  | .iface n _ => n
  | _ => ""
def errName : String := nameIn Rows.laid_strconv_ErrRange
def bareName : String := "errors.errorString"
def laid5 : List (String × DataW Unit) := Rows.fnParseIDSignsRow.laid
theorem gES : Tryd.prog.globalNamed "strconv.ErrSyntax" = some 0 := by kernel_rfl
theorem gER : Tryd.prog.globalNamed "strconv.ErrRange" = some 1 := by kernel_rfl
theorem tES : (Tryd.prog.globals[0]?).map (·.type) = some 31 := by kernel_rfl
theorem tER : (Tryd.prog.globals[1]?).map (·.type) = some 31 := by kernel_rfl
theorem cells51 : Tryd.prog.cellsOf 51 = 1 := by kernel_rfl
theorem cells9 : Tryd.prog.cellsOf 9 = 1 := by kernel_rfl
theorem row49 (u : TypeId) (h : Tryd.prog.typeName? 3 u = some errName) : u = 49 :=
  typeName_ptr_named (nm := bareName) (by kernel_rfl) (by kernel_rfl) (by decide) u h

theorem door_met (os : Os) (args : Array Value) : laidMetH Tryd.prog laid5 ((World.doorLaid Tryd.prog 400 os).forCall (fun _ _ => 0) ⟨#[], args, []⟩).memory :=
  laidMetH_of_parts3 (fuel := 8) (laidMet_of_run' 8 (by kernel_rfl) (by kernel_rfl)) (by kernel_rfl) (by kernel_rfl)

theorem of_laid {W : World} (h : laidMetH Tryd.prog laid5 W) : ∃ a b, W.cell? ⟨0, 0, none⟩ = some (.iface 49 (.pointer (some a))) ∧ W.cell? ⟨1, 0, none⟩ = some (.iface 49 (.pointer (some b))) := by
  rw [MakeChecks.laidMetH_plain _ _ _ (by kernel_rfl)] at h
  have h3 : laidMet Tryd.prog [("strconv.ErrRange", Rows.laid_strconv_ErrRange), ("strconv.ErrSyntax", Rows.laid_strconv_ErrSyntax)] W := laidMet.tail (laidMet.tail (laidMet.tail h))
  obtain ⟨b, s1, hv1, -, -, -⟩ := laid_sentinel h3 gER tER Tryd.underlying31 row49 Tryd.underlying49 Tryd.underlying51 rfl rfl Tryd.underlying9 cells51 cells9
  obtain ⟨a, s0, hv0, -, -, -⟩ := laid_sentinel h3.tail gES tES Tryd.underlying31 row49 Tryd.underlying49 Tryd.underlying51 rfl rfl Tryd.underlying9 cells51 cells9
  refine ⟨a, b, ?_, ?_⟩
  · have h0 := World.var?_cell gES hv0 0; simpa using h0
  · have h0 := World.var?_cell gER hv1 0; simpa using h0
end Go.Proofs.Qxb6613608aDoor
