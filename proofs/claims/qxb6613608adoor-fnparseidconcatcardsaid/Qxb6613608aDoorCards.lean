/-
  DERIVED. GIVEN WITH THE SEED: THE CARDS: each row of Qxb6613608aDoorRows.lean that lists a variable, with what it lists TIED to the program's text (the seventh form; the later family's looks); each row that meets fmt, with fmt's text TOLD by the authors' own Lean function (tested against real Go, not proved from fmt's source: count such statements apart). THE CARD IS WHAT COUNTS. Prove the row's statement (the work); the ties are given (Qxb6613608aDoorTie.lean); close each card by the builder's one call (the guide's Derived/Test/ToyasCard.lean, 'card_holds'). Laid BY PROGRAM, IN A SANDBOX (cutbox-door.mjs). By AI agents, Wed Nov 11 2026. No macro, syntax, notation, axiom, sorry.
-/
import Derived.Test.Qxb6613608aDoorRows
import GoSem.ClaimSeven
namespace Go.Proofs.Qxb6613608aDoor
namespace Rows

/-- THE TIED CARD OF 'zzlaws_pkg_sim_runners_b1.FnParseIDSigns'. -/
def fnParseIDSignsCard : Claim7 := { stood := { row := fnParseIDSignsRow, standIns := [], harness := (true, "1bcf94855b3fbc1fac76d06d5de3caa6fd559d8ecf694c62f6578ca2391b7b03"), looks := true }, kinds := [], alts := [], laidByText := true, laidKinds := [.data, .data, .data, .sentinel, .sentinel], laidTests := true, laidLooks := .later }
def FnParseIDSignsCardSaid : Prop := Claim7.holds Tryd.pinned (.plain (OpenSpec.ofChange fnParseIDSignsSpec)) fnParseIDSignsCard

/-- THE TIED CARD OF 'zzlaws_pkg_sim_runners_b1.FnParseIDConcat'. -/
def fnParseIDConcatCard : Claim7 := { stood := { row := fnParseIDConcatRow, standIns := [], harness := (true, "1bcf94855b3fbc1fac76d06d5de3caa6fd559d8ecf694c62f6578ca2391b7b03"), looks := true }, kinds := [], alts := [], laidByText := true, laidKinds := [.data, .data, .data, .sentinel, .sentinel], laidTests := true, laidLooks := .later }
def FnParseIDConcatCardSaid : Prop := Claim7.holds Tryd.pinned (.plain (OpenSpec.ofChange fnParseIDConcatSpec)) fnParseIDConcatCard
end Rows
end Go.Proofs.Qxb6613608aDoor
