/-
  DERIVED. GIVEN WITH THE SEED: THE CARDS: each row of Qxb6614394aDoorRows.lean that lists a variable, with what it lists TIED to the program's text (the seventh form; the later family's looks); each row that meets fmt, with fmt's text TOLD by the authors' own Lean function (tested against real Go, not proved from fmt's source: count such statements apart). THE CARD IS WHAT COUNTS. Prove the row's statement (the work); the ties are given (Qxb6614394aDoorTie.lean); close each card by the builder's one call (the guide's Derived/Test/ToyasCard.lean, 'card_holds'). Laid BY PROGRAM, IN A SANDBOX (cutbox-door.mjs). By AI agents, Wed Nov 11 2026. No macro, syntax, notation, axiom, sorry.
-/
import Derived.Test.Qxb6614394aDoorRows
import GoSem.ClaimSeven
namespace Go.Proofs.Qxb6614394aDoor
namespace Rows

/-- THE TIED CARD OF 'zzlaws_internal_wire_b1.FnReaderTakeSplitAgrees'. -/
def fnReaderTakeSplitAgreesCard : Claim7 := { stood := { row := fnReaderTakeSplitAgreesRow, standIns := [], harness := (true, "184764e41369a6c71cebf33932a03dd997f3c69df3f560dfe713d9f8b4cfcd25"), looks := false }, kinds := [], alts := [], laidByText := true, laidKinds := [.sentinel], laidTests := true, laidLooks := .later }
def FnReaderTakeSplitAgreesCardSaid : Prop := Claim7.holds Tryd.pinned (.plain (OpenSpec.ofChange fnReaderTakeSplitAgreesSpec)) fnReaderTakeSplitAgreesCard

/-- THE TIED CARD OF 'zzlaws_internal_wire_b1.FnReaderEndReadsNothing'. -/
def fnReaderEndReadsNothingCard : Claim7 := { stood := { row := fnReaderEndReadsNothingRow, standIns := [], harness := (true, "184764e41369a6c71cebf33932a03dd997f3c69df3f560dfe713d9f8b4cfcd25"), looks := false }, kinds := [], alts := [], laidByText := true, laidKinds := [.sentinel], laidTests := true, laidLooks := .later }
def FnReaderEndReadsNothingCardSaid : Prop := Claim7.holds Tryd.pinned (.plain (OpenSpec.ofChange fnReaderEndReadsNothingSpec)) fnReaderEndReadsNothingCard
end Rows
end Go.Proofs.Qxb6614394aDoor
