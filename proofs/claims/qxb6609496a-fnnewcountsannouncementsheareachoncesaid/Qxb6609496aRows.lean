/-
  No cell of these rows narrows 'for every input' (looked for: loops, veiled, ifaces, maps, wideKeys, modest, calm, conditions, laid).
  DERIVED. THE GIVEN ROWS OF THIS SEAT. 2 by the template 'for every input the law returns true; each argument reads behind the call as it read before'; 0 by the template 'total and deterministic' (their statements: Qxb6609496aTotals.lean).
  GIVEN WITH THE SEED: the statements are not yours to turn. If you find one false, say at which input.
  Laid BY PROGRAM, IN A SANDBOX (cutbox-rows.mjs): the forced cells as the released guide's own fill.sh prints them over the translation 2980a18da5e61dbd… (all of the seat's roots in one cut). By AI agents, Wed Nov 11 2026. No macro, syntax, notation, axiom, sorry.
-/
import Derived.Test.Qxb6609496aChecked
import GoSem.Claim
import GoSem.ClaimJoined
import GoSem.ClaimMapViews
import Derived.JoinedTies
import Derived.KernelRfl
namespace Go.Proofs.Qxb6609496a
/- THE CELL 'sum', in the pinned program and in every row, IS THE sha256 OF THE DUMP (.gsa) THAT Qxb6609496aProg.lean LOADS. Nothing in Lean hashes anything: it is a label: what it is worth is what the hold of that sum in a sandbox is worth. -/
noncomputable def Try.pinned : Pinned := { name := "qxb6609496a", sum := "2980a18da5e61dbdc5405c5e4b9ced49d7f9bcbe85a67b06117d11ee4f360bdd", checked := Try.checked }
namespace Rows
def none {H : Type} : Left H := { results := [], args := [] }

/-- 'zzlaws_protocol_b1.FnNewCountsAnnouncementsHearEachOnce': WHATEVER THE INPUT: true; the input reads as it did. -/
def fnNewCountsAnnouncementsHearEachOnceSpec : ChangeSpec := { name := "fnNewCountsAnnouncementsHearEachOnce", fn := fun _ => fun
  | [d1, d2, d3, d4] => { results := [.lit (.bool true)], args := [d1, d2, d3, d4] }
  | _ => none }
def fnNewCountsAnnouncementsHearEachOnceRow : OpenClaim := { program := "qxb6609496a", sum := "2980a18da5e61dbdc5405c5e4b9ced49d7f9bcbe85a67b06117d11ee4f360bdd", func := "example.com/concordice/concordice/zzlaws_protocol_b1.FnNewCountsAnnouncementsHearEachOnce", spec := "fnNewCountsAnnouncementsHearEachOnce", apart := false }
def FnNewCountsAnnouncementsHearEachOnceSaid : Prop := fnNewCountsAnnouncementsHearEachOnceRow.holds Try.pinned (OpenSpec.ofChange fnNewCountsAnnouncementsHearEachOnceSpec)

/-- ITS FALSE NEIGHBOUR: 'it returns false'. Refute it at one input. -/
def fnNewCountsAnnouncementsHearEachOnceWrong : ChangeSpec := { name := "fnNewCountsAnnouncementsHearEachOnce", fn := fun _ => fun
  | [d1, d2, d3, d4] => { results := [.lit (.bool false)], args := [d1, d2, d3, d4] }
  | _ => none }
def FnNewCountsAnnouncementsHearEachOnceWrongFalsely : Prop := fnNewCountsAnnouncementsHearEachOnceRow.holds Try.pinned (OpenSpec.ofChange fnNewCountsAnnouncementsHearEachOnceWrong)

/-- 'zzlaws_protocol_b1.FnRevealScriptAnnouncesOnce': WHATEVER THE INPUT: true; the input reads as it did. -/
def fnRevealScriptAnnouncesOnceSpec : ChangeSpec := { name := "fnRevealScriptAnnouncesOnce", fn := fun _ => fun
  | [d1, d2, d3, d4, d5, d6] => { results := [.lit (.bool true)], args := [d1, d2, d3, d4, d5, d6] }
  | _ => none }
def fnRevealScriptAnnouncesOnceRow : OpenClaim := { program := "qxb6609496a", sum := "2980a18da5e61dbdc5405c5e4b9ced49d7f9bcbe85a67b06117d11ee4f360bdd", func := "example.com/concordice/concordice/zzlaws_protocol_b1.FnRevealScriptAnnouncesOnce", spec := "fnRevealScriptAnnouncesOnce", apart := false }
def FnRevealScriptAnnouncesOnceSaid : Prop := fnRevealScriptAnnouncesOnceRow.holds Try.pinned (OpenSpec.ofChange fnRevealScriptAnnouncesOnceSpec)

/-- ITS FALSE NEIGHBOUR: 'it returns false'. Refute it at one input. -/
def fnRevealScriptAnnouncesOnceWrong : ChangeSpec := { name := "fnRevealScriptAnnouncesOnce", fn := fun _ => fun
  | [d1, d2, d3, d4, d5, d6] => { results := [.lit (.bool false)], args := [d1, d2, d3, d4, d5, d6] }
  | _ => none }
def FnRevealScriptAnnouncesOnceWrongFalsely : Prop := fnRevealScriptAnnouncesOnceRow.holds Try.pinned (OpenSpec.ofChange fnRevealScriptAnnouncesOnceWrong)

end Rows
end Go.Proofs.Qxb6609496a
