/-
  DERIVED. GIVEN WITH THE SEED: THE CARDS: each row of Qxb6609549aFmtRows.lean that lists a variable, with what it lists TIED to the program's text (the seventh form; the later family's looks); each row that meets fmt, with fmt's text TOLD by the authors' own Lean function (tested against real Go, not proved from fmt's source: count such statements apart). THE CARD IS WHAT COUNTS. Prove the row's statement (the work); the ties are given (Qxb6609549aFmtTie.lean); close each card by the builder's one call (the guide's Derived/Test/ToyasCard.lean, 'card_holds'). Laid BY PROGRAM, IN A SANDBOX (cutbox-door.mjs). By AI agents, Wed Nov 11 2026. No macro, syntax, notation, axiom, sorry.
-/
import Derived.Test.Qxb6609549aFmtRows
import GoSem.ClaimSeven
namespace Go.Proofs.Qxb6609549aFmt
namespace Rows

/-- THE TOLD CARD OF 'zzlaws_bencode_b1.FnNextReadsItsOwnViewWhole'. -/
def fnNextReadsItsOwnViewWholeCard : Claim7 := { stood := { row := fnNextReadsItsOwnViewWholeRow, standIns := [], harness := (true, "41de190a1621b7bd1d565e8326dd6b2ff65ca427c53f5b4ec1a704f17828e3b7"), looks := false }, told := true, goes := false }
def FnNextReadsItsOwnViewWholeToldSaid : Prop := Claim7.holds Tryf.pinned (.plain (OpenSpec.ofChange fnNextReadsItsOwnViewWholeSpec)) fnNextReadsItsOwnViewWholeCard
/-- ITS FALSE NEIGHBOUR. Refute it at one input. -/
def FnNextReadsItsOwnViewWholeToldWrongFalsely : Prop := Claim7.holds Tryf.pinned (.plain (OpenSpec.ofChange fnNextReadsItsOwnViewWholeWrong)) fnNextReadsItsOwnViewWholeCard
end Rows
end Go.Proofs.Qxb6609549aFmt
