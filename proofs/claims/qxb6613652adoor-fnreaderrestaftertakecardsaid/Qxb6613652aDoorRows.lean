/-
  NARROWER THAN 'FOR EVERY INPUT', by the rows' own cells (each row's printed sentence says how): FnReaderErrAfterTwoTakes: ifaces, laid · FnReaderLenAfterTake: ifaces, laid · FnReaderRestAfterTake: ifaces, laid.
  DERIVED. THE GIVEN ROWS OF THIS SEAT. 3 by the template 'for every input the law returns true; each argument reads behind the call as it read before'; 0 by the template 'total and deterministic' (their statements: Qxb6613652aDoorTotals.lean).
  GIVEN WITH THE SEED: the statements are not yours to turn. If you find one false, say at which input.
  Laid BY PROGRAM, IN A SANDBOX (cutbox-rows.mjs): the forced cells as the released guide's own fill.sh prints them over the translation dba8f274b8355c3b… (all of the seat's roots in one cut). By AI agents, Wed Nov 11 2026. No macro, syntax, notation, axiom, sorry.
-/
import Derived.Test.Qxb6613652aDoorChecked
import GoSem.Claim
import GoSem.ClaimJoined
import GoSem.ClaimMapViews
import Derived.JoinedTies
import Derived.KernelRfl
namespace Go.Proofs.Qxb6613652aDoor
/- THE CELL 'sum', in the pinned program and in every row, IS THE sha256 OF THE DUMP (.gsa) THAT Qxb6613652aDoorProg.lean LOADS. Nothing in Lean hashes anything: it is a label: what it is worth is what the hold of that sum in a sandbox is worth. -/
noncomputable def Tryd.pinned : Pinned := { name := "qxb6613652adoor", sum := "dba8f274b8355c3bf5bb3796fe0e07e26c8e9f774e01d950f02a01409da572ec", checked := Tryd.checked }
namespace Rows
def none {H : Type} : Left H := { results := [], args := [] }

/- WHAT THE LISTED PACKAGE-LEVEL VARIABLES READ AS WHEN THE CALL BEGINS. Each datum BY PROGRAM (the guide's laid-datum.mjs) off the statement by which the dump's own 'gosem.cut.vars' lays the variable. In a bare row this is a premise. The card (Qxb6613652aDoorCards.lean) ties it to the program's text. -/
def laid_example_com_tarn_tarn_internal_wire_ErrShort {H : Type} : DataW H := .iface "*errors.errorString" (.ptr (.agg [.lit (.string [99, 117, 116, 32, 115, 104, 111, 114, 116])]))

/-- 'zzlaws_internal_wire_b1.FnReaderErrAfterTwoTakes': WHATEVER THE INPUT: true; the input reads as it did. -/
def fnReaderErrAfterTwoTakesSpec : ChangeSpec := { name := "fnReaderErrAfterTwoTakes", vars := ["example.com/tarn/tarn/internal/wire.ErrShort"], fn := fun _ => fun
  | [d1, d2, d3, g1] => { results := [.lit (.bool true)], args := [d1, d2, d3], vars := [g1] }
  | _ => none }
def fnReaderErrAfterTwoTakesRow : OpenClaim := { program := "qxb6613652adoor", sum := "dba8f274b8355c3bf5bb3796fe0e07e26c8e9f774e01d950f02a01409da572ec", func := "example.com/tarn/tarn/zzlaws_internal_wire_b1.FnReaderErrAfterTwoTakes", spec := "fnReaderErrAfterTwoTakes", named := ["example.com/tarn/tarn/internal/wire.ErrShort"], ifaces := true, apart := false, laid := [("example.com/tarn/tarn/internal/wire.ErrShort", laid_example_com_tarn_tarn_internal_wire_ErrShort)] }
def FnReaderErrAfterTwoTakesSaid : Prop := fnReaderErrAfterTwoTakesRow.holds Tryd.pinned (OpenSpec.ofChange fnReaderErrAfterTwoTakesSpec)

/-- ITS FALSE NEIGHBOUR: 'it returns false'. Refute it at one input. -/
def fnReaderErrAfterTwoTakesWrong : ChangeSpec := { name := "fnReaderErrAfterTwoTakes", vars := ["example.com/tarn/tarn/internal/wire.ErrShort"], fn := fun _ => fun
  | [d1, d2, d3, g1] => { results := [.lit (.bool false)], args := [d1, d2, d3], vars := [g1] }
  | _ => none }
def FnReaderErrAfterTwoTakesWrongFalsely : Prop := fnReaderErrAfterTwoTakesRow.holds Tryd.pinned (OpenSpec.ofChange fnReaderErrAfterTwoTakesWrong)

/-- 'zzlaws_internal_wire_b1.FnReaderLenAfterTake': WHATEVER THE INPUT: true; the input reads as it did. -/
def fnReaderLenAfterTakeSpec : ChangeSpec := { name := "fnReaderLenAfterTake", vars := ["example.com/tarn/tarn/internal/wire.ErrShort"], fn := fun _ => fun
  | [d1, d2, g1] => { results := [.lit (.bool true)], args := [d1, d2], vars := [g1] }
  | _ => none }
def fnReaderLenAfterTakeRow : OpenClaim := { program := "qxb6613652adoor", sum := "dba8f274b8355c3bf5bb3796fe0e07e26c8e9f774e01d950f02a01409da572ec", func := "example.com/tarn/tarn/zzlaws_internal_wire_b1.FnReaderLenAfterTake", spec := "fnReaderLenAfterTake", named := ["example.com/tarn/tarn/internal/wire.ErrShort"], ifaces := true, apart := false, laid := [("example.com/tarn/tarn/internal/wire.ErrShort", laid_example_com_tarn_tarn_internal_wire_ErrShort)] }
def FnReaderLenAfterTakeSaid : Prop := fnReaderLenAfterTakeRow.holds Tryd.pinned (OpenSpec.ofChange fnReaderLenAfterTakeSpec)

/-- ITS FALSE NEIGHBOUR: 'it returns false'. Refute it at one input. -/
def fnReaderLenAfterTakeWrong : ChangeSpec := { name := "fnReaderLenAfterTake", vars := ["example.com/tarn/tarn/internal/wire.ErrShort"], fn := fun _ => fun
  | [d1, d2, g1] => { results := [.lit (.bool false)], args := [d1, d2], vars := [g1] }
  | _ => none }
def FnReaderLenAfterTakeWrongFalsely : Prop := fnReaderLenAfterTakeRow.holds Tryd.pinned (OpenSpec.ofChange fnReaderLenAfterTakeWrong)

/-- 'zzlaws_internal_wire_b1.FnReaderRestAfterTake': WHATEVER THE INPUT: true; the input reads as it did. -/
def fnReaderRestAfterTakeSpec : ChangeSpec := { name := "fnReaderRestAfterTake", vars := ["example.com/tarn/tarn/internal/wire.ErrShort"], fn := fun _ => fun
  | [d1, d2, g1] => { results := [.lit (.bool true)], args := [d1, d2], vars := [g1] }
  | _ => none }
def fnReaderRestAfterTakeRow : OpenClaim := { program := "qxb6613652adoor", sum := "dba8f274b8355c3bf5bb3796fe0e07e26c8e9f774e01d950f02a01409da572ec", func := "example.com/tarn/tarn/zzlaws_internal_wire_b1.FnReaderRestAfterTake", spec := "fnReaderRestAfterTake", named := ["example.com/tarn/tarn/internal/wire.ErrShort"], ifaces := true, apart := false, laid := [("example.com/tarn/tarn/internal/wire.ErrShort", laid_example_com_tarn_tarn_internal_wire_ErrShort)] }
def FnReaderRestAfterTakeSaid : Prop := fnReaderRestAfterTakeRow.holds Tryd.pinned (OpenSpec.ofChange fnReaderRestAfterTakeSpec)

/-- ITS FALSE NEIGHBOUR: 'it returns false'. Refute it at one input. -/
def fnReaderRestAfterTakeWrong : ChangeSpec := { name := "fnReaderRestAfterTake", vars := ["example.com/tarn/tarn/internal/wire.ErrShort"], fn := fun _ => fun
  | [d1, d2, g1] => { results := [.lit (.bool false)], args := [d1, d2], vars := [g1] }
  | _ => none }
def FnReaderRestAfterTakeWrongFalsely : Prop := fnReaderRestAfterTakeRow.holds Tryd.pinned (OpenSpec.ofChange fnReaderRestAfterTakeWrong)

end Rows
end Go.Proofs.Qxb6613652aDoor
