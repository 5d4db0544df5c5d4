/-
  No cell of these rows narrows 'for every input' (looked for: loops, veiled, ifaces, maps, wideKeys, modest, calm, conditions, laid).
  DERIVED. THE GIVEN ROWS OF THIS SEAT. 1 by the template 'for every input the law returns true; each argument reads behind the call as it read before'; 0 by the template 'total and deterministic' (their statements: Qxb6618887aFmtTotals.lean).
  GIVEN WITH THE SEED: the statements are not yours to turn. If you find one false, say at which input.
  Laid BY PROGRAM, IN A SANDBOX (cutbox-rows.mjs): the forced cells as the released guide's own fill.sh prints them over the translation 8de86dd33a2e131f… (all of the seat's roots in one cut). By AI agents, Wed Nov 11 2026. No macro, syntax, notation, axiom, sorry.
-/
import Derived.Test.Qxb6618887aFmtChecked
import GoSem.Claim
import GoSem.ClaimJoined
import GoSem.ClaimMapViews
import Derived.JoinedTies
import Derived.KernelRfl
namespace Go.Proofs.Qxb6618887aFmt
/- THE CELL 'sum', in the pinned program and in every row, IS THE sha256 OF THE DUMP (.gsa) THAT Qxb6618887aFmtProg.lean LOADS. Nothing in Lean hashes anything: it is a label: what it is worth is what the hold of that sum in a sandbox is worth. -/
noncomputable def Tryf.pinned : Pinned := { name := "qxb6618887afmt", sum := "8de86dd33a2e131fbbbc9d39f82cf6ef54a60eb686e12585bb9c1907b5cb8186", checked := Tryf.checked }
namespace Rows
def none {H : Type} : Left H := { results := [], args := [] }

/-- 'zzlaws_root_b1.FnOffenceOfVotesIsOrderFree': WHATEVER THE INPUT: true; the input reads as it did. -/
def fnOffenceOfVotesIsOrderFreeSpec : ChangeSpec := { name := "fnOffenceOfVotesIsOrderFree", fn := fun _ => fun
  | [d1, d2, d3, d4, d5, d6, d7, d8] => { results := [.lit (.bool true)], args := [d1, d2, d3, d4, d5, d6, d7, d8] }
  | _ => none }
def fnOffenceOfVotesIsOrderFreeRow : OpenClaim := { program := "qxb6618887afmt", sum := "8de86dd33a2e131fbbbc9d39f82cf6ef54a60eb686e12585bb9c1907b5cb8186", func := "example.com/chorale/chorale/zzlaws_root_b1.FnOffenceOfVotesIsOrderFree", spec := "fnOffenceOfVotesIsOrderFree", stops := ["fmt.Sprintf"], inPlace := ["fmt.Sprintf"], apart := false }
/-- NO THEOREM (fmt's text is open here; it may be false): for the released tool's asking of the row's closed facts alone. THE STATEMENT IS 'FnOffenceOfVotesIsOrderFreeToldSaid' (Qxb6618887aFmtCards.lean). -/
def FnOffenceOfVotesIsOrderFreeFormAsk : Prop := fnOffenceOfVotesIsOrderFreeRow.holds Tryf.pinned (OpenSpec.ofChange fnOffenceOfVotesIsOrderFreeSpec)

/-- ITS FALSE NEIGHBOUR: 'it returns false'. Refute it at one input. -/
def fnOffenceOfVotesIsOrderFreeWrong : ChangeSpec := { name := "fnOffenceOfVotesIsOrderFree", fn := fun _ => fun
  | [d1, d2, d3, d4, d5, d6, d7, d8] => { results := [.lit (.bool false)], args := [d1, d2, d3, d4, d5, d6, d7, d8] }
  | _ => none }
def FnOffenceOfVotesIsOrderFreeWrongFormAsk : Prop := fnOffenceOfVotesIsOrderFreeRow.holds Tryf.pinned (OpenSpec.ofChange fnOffenceOfVotesIsOrderFreeWrong)

end Rows
end Go.Proofs.Qxb6618887aFmt
