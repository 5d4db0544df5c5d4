/-
  No cell of these rows narrows 'for every input' (looked for: loops, veiled, ifaces, maps, wideKeys, modest, calm, conditions, laid).
  DERIVED. THE GIVEN ROWS OF THIS SEAT. 1 by the template 'for every input the law returns true; each argument reads behind the call as it read before'; 0 by the template 'total and deterministic' (their statements: Qxb6618308aTotals.lean).
  GIVEN WITH THE SEED: the statements are not yours to turn. If you find one false, say at which input.
  Laid BY PROGRAM, IN A SANDBOX (cutbox-rows.mjs): the forced cells as the released guide's own fill.sh prints them over the translation 1f0f58384b0330aa… (all of the seat's roots in one cut). By AI agents, Wed Nov 11 2026. No macro, syntax, notation, axiom, sorry.
-/
import Derived.Test.Qxb6618308aChecked
import GoSem.Claim
import GoSem.ClaimJoined
import GoSem.ClaimMapViews
import Derived.JoinedTies
import Derived.KernelRfl
namespace Go.Proofs.Qxb6618308a
/- THE CELL 'sum', in the pinned program and in every row, IS THE sha256 OF THE DUMP (.gsa) THAT Qxb6618308aProg.lean LOADS. Nothing in Lean hashes anything: it is a label: what it is worth is what the hold of that sum in a sandbox is worth. -/
noncomputable def Try.pinned : Pinned := { name := "qxb6618308a", sum := "1f0f58384b0330aa4a52a913c86f479cbab4c69da212b3b37585e60b512dea90", checked := Try.checked }
namespace Rows
def none {H : Type} : Left H := { results := [], args := [] }

/-- 'zzlaws_internal_money_b1.FnFitsMatchesWrittenDigits': WHATEVER THE INPUT: true; the input reads as it did. -/
def fnFitsMatchesWrittenDigitsSpec : ChangeSpec := { name := "fnFitsMatchesWrittenDigits", fn := fun _ => fun
  | [d1, d2, d3, d4] => { results := [.lit (.bool true)], args := [d1, d2, d3, d4] }
  | _ => none }
def fnFitsMatchesWrittenDigitsRow : OpenClaim := { program := "qxb6618308a", sum := "1f0f58384b0330aa4a52a913c86f479cbab4c69da212b3b37585e60b512dea90", func := "example.com/twinpost/twinpost/zzlaws_internal_money_b1.FnFitsMatchesWrittenDigits", spec := "fnFitsMatchesWrittenDigits", apart := false }
def FnFitsMatchesWrittenDigitsSaid : Prop := fnFitsMatchesWrittenDigitsRow.holds Try.pinned (OpenSpec.ofChange fnFitsMatchesWrittenDigitsSpec)

/-- ITS FALSE NEIGHBOUR: 'it returns false'. Refute it at one input. -/
def fnFitsMatchesWrittenDigitsWrong : ChangeSpec := { name := "fnFitsMatchesWrittenDigits", fn := fun _ => fun
  | [d1, d2, d3, d4] => { results := [.lit (.bool false)], args := [d1, d2, d3, d4] }
  | _ => none }
def FnFitsMatchesWrittenDigitsWrongFalsely : Prop := fnFitsMatchesWrittenDigitsRow.holds Try.pinned (OpenSpec.ofChange fnFitsMatchesWrittenDigitsWrong)

end Rows
end Go.Proofs.Qxb6618308a
