/-
  No cell of these rows narrows 'for every input' (looked for: loops, veiled, ifaces, maps, wideKeys, modest, calm, conditions, laid).
  DERIVED. THE GIVEN ROWS OF THIS SEAT. 2 by the template 'for every input the law returns true; each argument reads behind the call as it read before'; 0 by the template 'total and deterministic' (their statements: Qxb6609572aTotals.lean).
  GIVEN WITH THE SEED: the statements are not yours to turn. If you find one false, say at which input.
  Laid BY PROGRAM, IN A SANDBOX (cutbox-rows.mjs): the forced cells as the released guide's own fill.sh prints them over the translation 249f1b3a4ce8d782… (all of the seat's roots in one cut). By AI agents, Wed Nov 11 2026. No macro, syntax, notation, axiom, sorry.
-/
import Derived.Test.Qxb6609572aChecked
import GoSem.Claim
import GoSem.ClaimJoined
import GoSem.ClaimMapViews
import Derived.JoinedTies
import Derived.KernelRfl
namespace Go.Proofs.Qxb6609572a
/- THE CELL 'sum', in the pinned program and in every row, IS THE sha256 OF THE DUMP (.gsa) THAT Qxb6609572aProg.lean LOADS. Nothing in Lean hashes anything: it is a label: what it is worth is what the hold of that sum in a sandbox is worth. -/
noncomputable def Try.pinned : Pinned := { name := "qxb6609572a", sum := "249f1b3a4ce8d782e5261f465d23052f0e3d8f754d05ce0a300b51ef0aa84e2f", checked := Try.checked }
namespace Rows
def none {H : Type} : Left H := { results := [], args := [] }

/-- 'zzlaws_ledger_b1.FnIndexPlacesFollowLog': WHATEVER THE INPUT: true; the input reads as it did. -/
def fnIndexPlacesFollowLogSpec : ChangeSpec := { name := "fnIndexPlacesFollowLog", fn := fun _ => fun
  | [d1, d2, d3, d4, d5] => { results := [.lit (.bool true)], args := [d1, d2, d3, d4, d5] }
  | _ => none }
def fnIndexPlacesFollowLogRow : OpenClaim := { program := "qxb6609572a", sum := "249f1b3a4ce8d782e5261f465d23052f0e3d8f754d05ce0a300b51ef0aa84e2f", func := "example.com/kambio/kambio/zzlaws_ledger_b1.FnIndexPlacesFollowLog", spec := "fnIndexPlacesFollowLog", apart := false }
def FnIndexPlacesFollowLogSaid : Prop := fnIndexPlacesFollowLogRow.holds Try.pinned (OpenSpec.ofChange fnIndexPlacesFollowLogSpec)

/-- ITS FALSE NEIGHBOUR: 'it returns false'. Refute it at one input. -/
def fnIndexPlacesFollowLogWrong : ChangeSpec := { name := "fnIndexPlacesFollowLog", fn := fun _ => fun
  | [d1, d2, d3, d4, d5] => { results := [.lit (.bool false)], args := [d1, d2, d3, d4, d5] }
  | _ => none }
def FnIndexPlacesFollowLogWrongFalsely : Prop := fnIndexPlacesFollowLogRow.holds Try.pinned (OpenSpec.ofChange fnIndexPlacesFollowLogWrong)

/-- 'zzlaws_ledger_b1.FnIndexLenCountsHalvesApart': WHATEVER THE INPUT: true; the input reads as it did. -/
def fnIndexLenCountsHalvesApartSpec : ChangeSpec := { name := "fnIndexLenCountsHalvesApart", fn := fun _ => fun
  | [d1, d2, d3, d4] => { results := [.lit (.bool true)], args := [d1, d2, d3, d4] }
  | _ => none }
def fnIndexLenCountsHalvesApartRow : OpenClaim := { program := "qxb6609572a", sum := "249f1b3a4ce8d782e5261f465d23052f0e3d8f754d05ce0a300b51ef0aa84e2f", func := "example.com/kambio/kambio/zzlaws_ledger_b1.FnIndexLenCountsHalvesApart", spec := "fnIndexLenCountsHalvesApart", apart := false }
def FnIndexLenCountsHalvesApartSaid : Prop := fnIndexLenCountsHalvesApartRow.holds Try.pinned (OpenSpec.ofChange fnIndexLenCountsHalvesApartSpec)

/-- ITS FALSE NEIGHBOUR: 'it returns false'. Refute it at one input. -/
def fnIndexLenCountsHalvesApartWrong : ChangeSpec := { name := "fnIndexLenCountsHalvesApart", fn := fun _ => fun
  | [d1, d2, d3, d4] => { results := [.lit (.bool false)], args := [d1, d2, d3, d4] }
  | _ => none }
def FnIndexLenCountsHalvesApartWrongFalsely : Prop := fnIndexLenCountsHalvesApartRow.holds Try.pinned (OpenSpec.ofChange fnIndexLenCountsHalvesApartWrong)

end Rows
end Go.Proofs.Qxb6609572a
