/-
  No cell of these rows narrows 'for every input' (looked for: loops, veiled, ifaces, maps, wideKeys, modest, calm, conditions, laid).
  DERIVED. THE GIVEN ROWS OF THIS SEAT. 2 by the template 'for every input the law returns true; each argument reads behind the call as it read before'; 0 by the template 'total and deterministic' (their statements: Qxb6618301aTotals.lean).
  GIVEN WITH THE SEED: the statements are not yours to turn. If you find one false, say at which input.
  Laid BY PROGRAM, IN A SANDBOX (cutbox-rows.mjs): the forced cells as the released guide's own fill.sh prints them over the translation 3db67d7d32022947… (all of the seat's roots in one cut). By AI agents, Wed Nov 11 2026. No macro, syntax, notation, axiom, sorry.
-/
import Derived.Test.Qxb6618301aChecked
import GoSem.Claim
import GoSem.ClaimJoined
import GoSem.ClaimMapViews
import Derived.JoinedTies
import Derived.KernelRfl
namespace Go.Proofs.Qxb6618301a
/- THE CELL 'sum', in the pinned program and in every row, IS THE sha256 OF THE DUMP (.gsa) THAT Qxb6618301aProg.lean LOADS. Nothing in Lean hashes anything: it is a label: what it is worth is what the hold of that sum in a sandbox is worth. -/
noncomputable def Try.pinned : Pinned := { name := "qxb6618301a", sum := "3db67d7d32022947fd93c5e045caaf0b6a5738e9738038bb190415106ec416d9", checked := Try.checked }
namespace Rows
def none {H : Type} : Left H := { results := [], args := [] }

/-- 'zzlaws_internal_bench_b1.FnMemoryRatioIsMeanOverMeanInAnyOrder': WHATEVER THE INPUT: true; the input reads as it did. -/
def fnMemoryRatioIsMeanOverMeanInAnyOrderSpec : ChangeSpec := { name := "fnMemoryRatioIsMeanOverMeanInAnyOrder", fn := fun _ => fun
  | [d1, d2, d3, d4, d5] => { results := [.lit (.bool true)], args := [d1, d2, d3, d4, d5] }
  | _ => none }
def fnMemoryRatioIsMeanOverMeanInAnyOrderRow : OpenClaim := { program := "qxb6618301a", sum := "3db67d7d32022947fd93c5e045caaf0b6a5738e9738038bb190415106ec416d9", func := "example.com/vigilant-await/vigilant-await/zzlaws_internal_bench_b1.FnMemoryRatioIsMeanOverMeanInAnyOrder", spec := "fnMemoryRatioIsMeanOverMeanInAnyOrder", inPlace := ["math.Float64frombits"], apart := false }
def FnMemoryRatioIsMeanOverMeanInAnyOrderSaid : Prop := fnMemoryRatioIsMeanOverMeanInAnyOrderRow.holds Try.pinned (OpenSpec.ofChange fnMemoryRatioIsMeanOverMeanInAnyOrderSpec)

/-- ITS FALSE NEIGHBOUR: 'it returns false'. Refute it at one input. -/
def fnMemoryRatioIsMeanOverMeanInAnyOrderWrong : ChangeSpec := { name := "fnMemoryRatioIsMeanOverMeanInAnyOrder", fn := fun _ => fun
  | [d1, d2, d3, d4, d5] => { results := [.lit (.bool false)], args := [d1, d2, d3, d4, d5] }
  | _ => none }
def FnMemoryRatioIsMeanOverMeanInAnyOrderWrongFalsely : Prop := fnMemoryRatioIsMeanOverMeanInAnyOrderRow.holds Try.pinned (OpenSpec.ofChange fnMemoryRatioIsMeanOverMeanInAnyOrderWrong)

/-- 'zzlaws_internal_bench_b1.FnMemoryRatioScalesWithEachSideAndSelfIsOne': WHATEVER THE INPUT: true; the input reads as it did. -/
def fnMemoryRatioScalesWithEachSideAndSelfIsOneSpec : ChangeSpec := { name := "fnMemoryRatioScalesWithEachSideAndSelfIsOne", fn := fun _ => fun
  | [d1, d2, d3, d4, d5] => { results := [.lit (.bool true)], args := [d1, d2, d3, d4, d5] }
  | _ => none }
def fnMemoryRatioScalesWithEachSideAndSelfIsOneRow : OpenClaim := { program := "qxb6618301a", sum := "3db67d7d32022947fd93c5e045caaf0b6a5738e9738038bb190415106ec416d9", func := "example.com/vigilant-await/vigilant-await/zzlaws_internal_bench_b1.FnMemoryRatioScalesWithEachSideAndSelfIsOne", spec := "fnMemoryRatioScalesWithEachSideAndSelfIsOne", inPlace := ["math.Float64frombits"], apart := false }
def FnMemoryRatioScalesWithEachSideAndSelfIsOneSaid : Prop := fnMemoryRatioScalesWithEachSideAndSelfIsOneRow.holds Try.pinned (OpenSpec.ofChange fnMemoryRatioScalesWithEachSideAndSelfIsOneSpec)

/-- ITS FALSE NEIGHBOUR: 'it returns false'. Refute it at one input. -/
def fnMemoryRatioScalesWithEachSideAndSelfIsOneWrong : ChangeSpec := { name := "fnMemoryRatioScalesWithEachSideAndSelfIsOne", fn := fun _ => fun
  | [d1, d2, d3, d4, d5] => { results := [.lit (.bool false)], args := [d1, d2, d3, d4, d5] }
  | _ => none }
def FnMemoryRatioScalesWithEachSideAndSelfIsOneWrongFalsely : Prop := fnMemoryRatioScalesWithEachSideAndSelfIsOneRow.holds Try.pinned (OpenSpec.ofChange fnMemoryRatioScalesWithEachSideAndSelfIsOneWrong)

end Rows
end Go.Proofs.Qxb6618301a
