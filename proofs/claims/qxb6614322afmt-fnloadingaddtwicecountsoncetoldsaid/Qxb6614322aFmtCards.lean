/-
  DERIVED. GIVEN WITH THE SEED: THE CARDS: each row of Qxb6614322aFmtRows.lean that lists a variable, with what it lists TIED to the program's text (the seventh form; the later family's looks); each row that meets fmt, with fmt's text TOLD by the authors' own Lean function (tested against real Go, not proved from fmt's source: count such statements apart). THE CARD IS WHAT COUNTS. Prove the row's statement (the work); the ties are given (Qxb6614322aFmtTie.lean); close each card by the builder's one call (the guide's Derived/Test/ToyasCard.lean, 'card_holds'). Laid BY PROGRAM, IN A SANDBOX (cutbox-door.mjs). By AI agents, Wed Nov 11 2026. No macro, syntax, notation, axiom, sorry.
-/
import Derived.Test.Qxb6614322aFmtRows
import GoSem.ClaimSeven
namespace Go.Proofs.Qxb6614322aFmt
namespace Rows

/-- THE TOLD CARD OF 'zzlaws_internal_server_b1.FnLoadingAddTwiceCountsOnce'. -/
def fnLoadingAddTwiceCountsOnceCard : Claim7 := { stood := { row := fnLoadingAddTwiceCountsOnceRow, standIns := [], harness := (true, "28ff85d78e3b1944ad01621385f07b41cb7f37fbbe343bec16584286afa10369"), looks := false }, told := true, goes := false }
def FnLoadingAddTwiceCountsOnceToldSaid : Prop := Claim7.holds Tryf.pinned (.plain (OpenSpec.ofChange fnLoadingAddTwiceCountsOnceSpec)) fnLoadingAddTwiceCountsOnceCard
/-- ITS FALSE NEIGHBOUR. Refute it at one input. -/
def FnLoadingAddTwiceCountsOnceToldWrongFalsely : Prop := Claim7.holds Tryf.pinned (.plain (OpenSpec.ofChange fnLoadingAddTwiceCountsOnceWrong)) fnLoadingAddTwiceCountsOnceCard
end Rows
end Go.Proofs.Qxb6614322aFmt
