/-
  DERIVED. GIVEN WITH THE SEED: THE CARDS: each row of Qxb6618887aFmtRows.lean that lists a variable, with what it lists TIED to the program's text (the seventh form; the later family's looks); each row that meets fmt, with fmt's text TOLD by the authors' own Lean function (tested against real Go, not proved from fmt's source: count such statements apart). THE CARD IS WHAT COUNTS. Prove the row's statement (the work); the ties are given (Qxb6618887aFmtTie.lean); close each card by the builder's one call (the guide's Derived/Test/ToyasCard.lean, 'card_holds'). Laid BY PROGRAM, IN A SANDBOX (cutbox-door.mjs). By AI agents, Wed Nov 11 2026. No macro, syntax, notation, axiom, sorry.
-/
import Derived.Test.Qxb6618887aFmtRows
import GoSem.ClaimSeven
namespace Go.Proofs.Qxb6618887aFmt
namespace Rows

/-- THE TOLD CARD OF 'zzlaws_root_b1.FnOffenceOfVotesIsOrderFree'. -/
def fnOffenceOfVotesIsOrderFreeCard : Claim7 := { stood := { row := fnOffenceOfVotesIsOrderFreeRow, standIns := [], harness := (true, "c4cb1ab4a4b0d3927b6967388ca4806b903b21dfe61fc4fa9c5b03bcf5d04b2e"), looks := true }, told := true, goes := false }
def FnOffenceOfVotesIsOrderFreeToldSaid : Prop := Claim7.holds Tryf.pinned (.plain (OpenSpec.ofChange fnOffenceOfVotesIsOrderFreeSpec)) fnOffenceOfVotesIsOrderFreeCard
/-- ITS FALSE NEIGHBOUR. Refute it at one input. -/
def FnOffenceOfVotesIsOrderFreeToldWrongFalsely : Prop := Claim7.holds Tryf.pinned (.plain (OpenSpec.ofChange fnOffenceOfVotesIsOrderFreeWrong)) fnOffenceOfVotesIsOrderFreeCard
end Rows
end Go.Proofs.Qxb6618887aFmt
