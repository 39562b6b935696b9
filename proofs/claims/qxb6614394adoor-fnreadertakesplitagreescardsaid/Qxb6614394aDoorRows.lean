/-
  NARROWER THAN 'FOR EVERY INPUT', by the rows' own cells (each row's printed sentence says how): FnReaderTakeSplitAgrees: ifaces, laid · FnReaderEndReadsNothing: ifaces, laid.
  DERIVED. THE GIVEN ROWS OF THIS SEAT. 2 by the template 'for every input the law returns true; each argument reads behind the call as it read before'; 0 by the template 'total and deterministic' (their statements: Qxb6614394aDoorTotals.lean).
  GIVEN WITH THE SEED: the statements are not yours to turn. If you find one false, say at which input.
  Laid BY PROGRAM, IN A SANDBOX (cutbox-rows.mjs): the forced cells as the released guide's own fill.sh prints them over the translation 7e0e34e86dd51952… (all of the seat's roots in one cut). By AI agents, Wed Nov 11 2026. No macro, syntax, notation, axiom, sorry.
-/
import Derived.Test.Qxb6614394aDoorChecked
import GoSem.Claim
import GoSem.ClaimJoined
import GoSem.ClaimMapViews
import Derived.JoinedTies
import Derived.KernelRfl
namespace Go.Proofs.Qxb6614394aDoor
/- THE CELL 'sum', in the pinned program and in every row, IS THE sha256 OF THE DUMP (.gsa) THAT Qxb6614394aDoorProg.lean LOADS. Nothing in Lean hashes anything: it is a label: what it is worth is what the hold of that sum in a sandbox is worth. -/
noncomputable def Tryd.pinned : Pinned := { name := "qxb6614394adoor", sum := "7e0e34e86dd51952ef392b3a6bcb3054a3e0888a63edb0da037def944d33ada9", checked := Tryd.checked }
namespace Rows
def none {H : Type} : Left H := { results := [], args := [] }

/- WHAT THE LISTED PACKAGE-LEVEL VARIABLES READ AS WHEN THE CALL BEGINS. Each datum BY PROGRAM (the guide's laid-datum.mjs) off the statement by which the dump's own 'gosem.cut.vars' lays the variable. In a bare row this is a premise. The card (Qxb6614394aDoorCards.lean) ties it to the program's text. -/
def laid_example_com_portcullis_portcullis_internal_wire_errShort {H : Type} : DataW H := .iface "*errors.errorString" (.ptr (.agg [.lit (.string [119, 105, 114, 101, 58, 32, 109, 101, 115, 115, 97, 103, 101, 32, 101, 110, 100, 115, 32, 101, 97, 114, 108, 121])]))

/-- 'zzlaws_internal_wire_b1.FnReaderTakeSplitAgrees': WHATEVER THE INPUT: true; the input reads as it did. -/
def fnReaderTakeSplitAgreesSpec : ChangeSpec := { name := "fnReaderTakeSplitAgrees", vars := ["example.com/portcullis/portcullis/internal/wire.errShort"], fn := fun _ => fun
  | [d1, d2, d3, g1] => { results := [.lit (.bool true)], args := [d1, d2, d3], vars := [g1] }
  | _ => none }
def fnReaderTakeSplitAgreesRow : OpenClaim := { program := "qxb6614394adoor", sum := "7e0e34e86dd51952ef392b3a6bcb3054a3e0888a63edb0da037def944d33ada9", func := "example.com/portcullis/portcullis/zzlaws_internal_wire_b1.FnReaderTakeSplitAgrees", spec := "fnReaderTakeSplitAgrees", named := ["example.com/portcullis/portcullis/internal/wire.errShort"], ifaces := true, apart := false, laid := [("example.com/portcullis/portcullis/internal/wire.errShort", laid_example_com_portcullis_portcullis_internal_wire_errShort)] }
def FnReaderTakeSplitAgreesSaid : Prop := fnReaderTakeSplitAgreesRow.holds Tryd.pinned (OpenSpec.ofChange fnReaderTakeSplitAgreesSpec)

/-- ITS FALSE NEIGHBOUR: 'it returns false'. Refute it at one input. -/
def fnReaderTakeSplitAgreesWrong : ChangeSpec := { name := "fnReaderTakeSplitAgrees", vars := ["example.com/portcullis/portcullis/internal/wire.errShort"], fn := fun _ => fun
  | [d1, d2, d3, g1] => { results := [.lit (.bool false)], args := [d1, d2, d3], vars := [g1] }
  | _ => none }
def FnReaderTakeSplitAgreesWrongFalsely : Prop := fnReaderTakeSplitAgreesRow.holds Tryd.pinned (OpenSpec.ofChange fnReaderTakeSplitAgreesWrong)

/-- 'zzlaws_internal_wire_b1.FnReaderEndReadsNothing': WHATEVER THE INPUT: true; the input reads as it did. -/
def fnReaderEndReadsNothingSpec : ChangeSpec := { name := "fnReaderEndReadsNothing", vars := ["example.com/portcullis/portcullis/internal/wire.errShort"], fn := fun _ => fun
  | [d1, d2, g1] => { results := [.lit (.bool true)], args := [d1, d2], vars := [g1] }
  | _ => none }
def fnReaderEndReadsNothingRow : OpenClaim := { program := "qxb6614394adoor", sum := "7e0e34e86dd51952ef392b3a6bcb3054a3e0888a63edb0da037def944d33ada9", func := "example.com/portcullis/portcullis/zzlaws_internal_wire_b1.FnReaderEndReadsNothing", spec := "fnReaderEndReadsNothing", named := ["example.com/portcullis/portcullis/internal/wire.errShort"], ifaces := true, apart := false, laid := [("example.com/portcullis/portcullis/internal/wire.errShort", laid_example_com_portcullis_portcullis_internal_wire_errShort)] }
def FnReaderEndReadsNothingSaid : Prop := fnReaderEndReadsNothingRow.holds Tryd.pinned (OpenSpec.ofChange fnReaderEndReadsNothingSpec)

/-- ITS FALSE NEIGHBOUR: 'it returns false'. Refute it at one input. -/
def fnReaderEndReadsNothingWrong : ChangeSpec := { name := "fnReaderEndReadsNothing", vars := ["example.com/portcullis/portcullis/internal/wire.errShort"], fn := fun _ => fun
  | [d1, d2, g1] => { results := [.lit (.bool false)], args := [d1, d2], vars := [g1] }
  | _ => none }
def FnReaderEndReadsNothingWrongFalsely : Prop := fnReaderEndReadsNothingRow.holds Tryd.pinned (OpenSpec.ofChange fnReaderEndReadsNothingWrong)

end Rows
end Go.Proofs.Qxb6614394aDoor
