/-
  No cell of these rows narrows 'for every input' (looked for: loops, veiled, ifaces, maps, wideKeys, modest, calm, conditions, laid).
  DERIVED. THE GIVEN ROWS OF THIS SEAT. 2 by the template 'for every input the law returns true; each argument reads behind the call as it read before'; 0 by the template 'total and deterministic' (their statements: Qxb6618907aTotals.lean).
  GIVEN WITH THE SEED: the statements are not yours to turn. If you find one false, say at which input.
  Laid BY PROGRAM, IN A SANDBOX (cutbox-rows.mjs): the forced cells as the released guide's own fill.sh prints them over the translation 746addfef966486d… (all of the seat's roots in one cut). By AI agents, Wed Nov 11 2026. No macro, syntax, notation, axiom, sorry.
-/
import Derived.Test.Qxb6618907aChecked
import GoSem.Claim
import GoSem.ClaimJoined
import GoSem.ClaimMapViews
import Derived.JoinedTies
import Derived.KernelRfl
namespace Go.Proofs.Qxb6618907a
/- THE CELL 'sum', in the pinned program and in every row, IS THE sha256 OF THE DUMP (.gsa) THAT Qxb6618907aProg.lean LOADS. Nothing in Lean hashes anything: it is a label: what it is worth is what the hold of that sum in a sandbox is worth. -/
noncomputable def Try.pinned : Pinned := { name := "qxb6618907a", sum := "746addfef966486dd769bb390ba509437f3c9e439c937976d3de036f93bb63fd", checked := Try.checked }
namespace Rows
def none {H : Type} : Left H := { results := [], args := [] }

/-- 'zzlaws_internal_event_b1.FnNumberReadsLongestViablePrefix': WHATEVER THE INPUT: true; the input reads as it did. -/
def fnNumberReadsLongestViablePrefixSpec : ChangeSpec := { name := "fnNumberReadsLongestViablePrefix", fn := fun _ => fun
  | [d1, d2, d3, d4] => { results := [.lit (.bool true)], args := [d1, d2, d3, d4] }
  | _ => none }
def fnNumberReadsLongestViablePrefixRow : OpenClaim := { program := "qxb6618907a", sum := "746addfef966486dd769bb390ba509437f3c9e439c937976d3de036f93bb63fd", func := "example.com/tallyline/tallyline/zzlaws_internal_event_b1.FnNumberReadsLongestViablePrefix", spec := "fnNumberReadsLongestViablePrefix", apart := false }
def FnNumberReadsLongestViablePrefixSaid : Prop := fnNumberReadsLongestViablePrefixRow.holds Try.pinned (OpenSpec.ofChange fnNumberReadsLongestViablePrefixSpec)

/-- ITS FALSE NEIGHBOUR: 'it returns false'. Refute it at one input. -/
def fnNumberReadsLongestViablePrefixWrong : ChangeSpec := { name := "fnNumberReadsLongestViablePrefix", fn := fun _ => fun
  | [d1, d2, d3, d4] => { results := [.lit (.bool false)], args := [d1, d2, d3, d4] }
  | _ => none }
def FnNumberReadsLongestViablePrefixWrongFalsely : Prop := fnNumberReadsLongestViablePrefixRow.holds Try.pinned (OpenSpec.ofChange fnNumberReadsLongestViablePrefixWrong)

/-- 'zzlaws_internal_event_b1.FnNumberMinusInFront': WHATEVER THE INPUT: true; the input reads as it did. -/
def fnNumberMinusInFrontSpec : ChangeSpec := { name := "fnNumberMinusInFront", fn := fun _ => fun
  | [d1, d2, d3, d4] => { results := [.lit (.bool true)], args := [d1, d2, d3, d4] }
  | _ => none }
def fnNumberMinusInFrontRow : OpenClaim := { program := "qxb6618907a", sum := "746addfef966486dd769bb390ba509437f3c9e439c937976d3de036f93bb63fd", func := "example.com/tallyline/tallyline/zzlaws_internal_event_b1.FnNumberMinusInFront", spec := "fnNumberMinusInFront", apart := false }
def FnNumberMinusInFrontSaid : Prop := fnNumberMinusInFrontRow.holds Try.pinned (OpenSpec.ofChange fnNumberMinusInFrontSpec)

/-- ITS FALSE NEIGHBOUR: 'it returns false'. Refute it at one input. -/
def fnNumberMinusInFrontWrong : ChangeSpec := { name := "fnNumberMinusInFront", fn := fun _ => fun
  | [d1, d2, d3, d4] => { results := [.lit (.bool false)], args := [d1, d2, d3, d4] }
  | _ => none }
def FnNumberMinusInFrontWrongFalsely : Prop := fnNumberMinusInFrontRow.holds Try.pinned (OpenSpec.ofChange fnNumberMinusInFrontWrong)

end Rows
end Go.Proofs.Qxb6618907a
