/-
  DERIVED. GIVEN WITH THE SEED: THE CARDS: each row of Qxb6613652aDoorRows.lean that lists a variable, with what it lists TIED to the program's text (the seventh form; the later family's looks); each row that meets fmt, with fmt's text TOLD by the authors' own Lean function (tested against real Go, not proved from fmt's source: count such statements apart). THE CARD IS WHAT COUNTS. Prove the row's statement (the work); the ties are given (Qxb6613652aDoorTie.lean); close each card by the builder's one call (the guide's Derived/Test/ToyasCard.lean, 'card_holds'). Laid BY PROGRAM, IN A SANDBOX (cutbox-door.mjs). By AI agents, Wed Nov 11 2026. No macro, syntax, notation, axiom, sorry.
-/
import Derived.Test.Qxb6613652aDoorRows
import GoSem.ClaimSeven
namespace Go.Proofs.Qxb6613652aDoor
namespace Rows

/-- THE TIED CARD OF 'zzlaws_internal_wire_b1.FnReaderErrAfterTwoTakes'. -/
def fnReaderErrAfterTwoTakesCard : Claim7 := { stood := { row := fnReaderErrAfterTwoTakesRow, standIns := [], harness := (true, "d2b7f20572f62ffcfccce9339d79738f66acee8a3ae0c5ae21892983182bc8ce"), looks := false }, kinds := [], alts := [], laidByText := true, laidKinds := [.sentinel], laidTests := true, laidLooks := .later }
def FnReaderErrAfterTwoTakesCardSaid : Prop := Claim7.holds Tryd.pinned (.plain (OpenSpec.ofChange fnReaderErrAfterTwoTakesSpec)) fnReaderErrAfterTwoTakesCard

/-- THE TIED CARD OF 'zzlaws_internal_wire_b1.FnReaderLenAfterTake'. -/
def fnReaderLenAfterTakeCard : Claim7 := { stood := { row := fnReaderLenAfterTakeRow, standIns := [], harness := (true, "d2b7f20572f62ffcfccce9339d79738f66acee8a3ae0c5ae21892983182bc8ce"), looks := false }, kinds := [], alts := [], laidByText := true, laidKinds := [.sentinel], laidTests := true, laidLooks := .later }
def FnReaderLenAfterTakeCardSaid : Prop := Claim7.holds Tryd.pinned (.plain (OpenSpec.ofChange fnReaderLenAfterTakeSpec)) fnReaderLenAfterTakeCard

/-- THE TIED CARD OF 'zzlaws_internal_wire_b1.FnReaderRestAfterTake'. -/
def fnReaderRestAfterTakeCard : Claim7 := { stood := { row := fnReaderRestAfterTakeRow, standIns := [], harness := (true, "d2b7f20572f62ffcfccce9339d79738f66acee8a3ae0c5ae21892983182bc8ce"), looks := false }, kinds := [], alts := [], laidByText := true, laidKinds := [.sentinel], laidTests := true, laidLooks := .later }
def FnReaderRestAfterTakeCardSaid : Prop := Claim7.holds Tryd.pinned (.plain (OpenSpec.ofChange fnReaderRestAfterTakeSpec)) fnReaderRestAfterTakeCard
end Rows
end Go.Proofs.Qxb6613652aDoor
