/-
  No cell of these rows narrows 'for every input' (looked for: loops, veiled, ifaces, maps, wideKeys, modest, calm, conditions, laid).
  DERIVED. THE GIVEN ROWS OF THIS SEAT. 1 by the template 'for every input the law returns true; each argument reads behind the call as it read before'; 0 by the template 'total and deterministic' (their statements: Qxb6614322aFmtTotals.lean).
  GIVEN WITH THE SEED: the statements are not yours to turn. If you find one false, say at which input.
  Laid BY PROGRAM, IN A SANDBOX (cutbox-rows.mjs): the forced cells as the released guide's own fill.sh prints them over the translation d3d135af37b15b6f… (all of the seat's roots in one cut). By AI agents, Wed Nov 11 2026. No macro, syntax, notation, axiom, sorry.
-/
import Derived.Test.Qxb6614322aFmtChecked
import GoSem.Claim
import GoSem.ClaimJoined
import GoSem.ClaimMapViews
import Derived.JoinedTies
import Derived.KernelRfl
namespace Go.Proofs.Qxb6614322aFmt
/- THE CELL 'sum', in the pinned program and in every row, IS THE sha256 OF THE DUMP (.gsa) THAT Qxb6614322aFmtProg.lean LOADS. Nothing in Lean hashes anything: it is a label: what it is worth is what the hold of that sum in a sandbox is worth. -/
noncomputable def Tryf.pinned : Pinned := { name := "qxb6614322afmt", sum := "d3d135af37b15b6fe7a05750b8a50d6450389d2a434bcfb58a4e3f57090346da", checked := Tryf.checked }
namespace Rows
def none {H : Type} : Left H := { results := [], args := [] }

/-- 'zzlaws_internal_server_b1.FnLoadingAddTwiceCountsOnce': WHATEVER THE INPUT: true; the input reads as it did. -/
def fnLoadingAddTwiceCountsOnceSpec : ChangeSpec := { name := "fnLoadingAddTwiceCountsOnce", fn := fun _ => fun
  | [d1, d2, d3, d4, d5, d6] => { results := [.lit (.bool true)], args := [d1, d2, d3, d4, d5, d6] }
  | _ => none }
def fnLoadingAddTwiceCountsOnceRow : OpenClaim := { program := "qxb6614322afmt", sum := "d3d135af37b15b6fe7a05750b8a50d6450389d2a434bcfb58a4e3f57090346da", func := "example.com/veilgate/veilgate/zzlaws_internal_server_b1.FnLoadingAddTwiceCountsOnce", spec := "fnLoadingAddTwiceCountsOnce", stops := ["fmt.Sprintf"], inPlace := ["fmt.Sprintf"], apart := false }
/-- NO THEOREM (fmt's text is open here; it may be false): for the released tool's asking of the row's closed facts alone. THE STATEMENT IS 'FnLoadingAddTwiceCountsOnceToldSaid' (Qxb6614322aFmtCards.lean). -/
def FnLoadingAddTwiceCountsOnceFormAsk : Prop := fnLoadingAddTwiceCountsOnceRow.holds Tryf.pinned (OpenSpec.ofChange fnLoadingAddTwiceCountsOnceSpec)

/-- ITS FALSE NEIGHBOUR: 'it returns false'. Refute it at one input. -/
def fnLoadingAddTwiceCountsOnceWrong : ChangeSpec := { name := "fnLoadingAddTwiceCountsOnce", fn := fun _ => fun
  | [d1, d2, d3, d4, d5, d6] => { results := [.lit (.bool false)], args := [d1, d2, d3, d4, d5, d6] }
  | _ => none }
def FnLoadingAddTwiceCountsOnceWrongFormAsk : Prop := fnLoadingAddTwiceCountsOnceRow.holds Tryf.pinned (OpenSpec.ofChange fnLoadingAddTwiceCountsOnceWrong)

end Rows
end Go.Proofs.Qxb6614322aFmt
