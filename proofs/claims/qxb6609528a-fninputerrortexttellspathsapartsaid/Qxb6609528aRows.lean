/-
  No cell of these rows narrows 'for every input' (looked for: loops, veiled, ifaces, maps, wideKeys, modest, calm, conditions, laid).
  DERIVED. THE GIVEN ROWS OF THIS SEAT. 1 by the template 'for every input the law returns true; each argument reads behind the call as it read before'; 0 by the template 'total and deterministic' (their statements: Qxb6609528aTotals.lean).
  GIVEN WITH THE SEED: the statements are not yours to turn. If you find one false, say at which input.
  Laid BY PROGRAM, IN A SANDBOX (cutbox-rows.mjs): the forced cells as the released guide's own fill.sh prints them over the translation 8829327c7f7f2490… (all of the seat's roots in one cut). By AI agents, Wed Nov 11 2026. No macro, syntax, notation, axiom, sorry.
-/
import Derived.Test.Qxb6609528aChecked
import GoSem.Claim
import GoSem.ClaimJoined
import GoSem.ClaimMapViews
import Derived.JoinedTies
import Derived.KernelRfl
namespace Go.Proofs.Qxb6609528a
/- THE CELL 'sum', in the pinned program and in every row, IS THE sha256 OF THE DUMP (.gsa) THAT Qxb6609528aProg.lean LOADS. Nothing in Lean hashes anything: it is a label: what it is worth is what the hold of that sum in a sandbox is worth. -/
noncomputable def Try.pinned : Pinned := { name := "qxb6609528a", sum := "8829327c7f7f24907ba53921516c397480c2bec3a2a10695ea01dbb189e5a382", checked := Try.checked }
namespace Rows
def none {H : Type} : Left H := { results := [], args := [] }

/-- 'zzlaws_root_b1.FnInputErrorTextTellsPathsApart': WHATEVER THE INPUT: true; the input reads as it did. -/
def fnInputErrorTextTellsPathsApartSpec : ChangeSpec := { name := "fnInputErrorTextTellsPathsApart", fn := fun _ => fun
  | [d1, d2, d3] => { results := [.lit (.bool true)], args := [d1, d2, d3] }
  | _ => none }
def fnInputErrorTextTellsPathsApartRow : OpenClaim := { program := "qxb6609528a", sum := "8829327c7f7f24907ba53921516c397480c2bec3a2a10695ea01dbb189e5a382", func := "example.com/forfeit/forfeit/zzlaws_root_b1.FnInputErrorTextTellsPathsApart", spec := "fnInputErrorTextTellsPathsApart", unfollowed := true, recurses := true, apart := false }
def FnInputErrorTextTellsPathsApartSaid : Prop := fnInputErrorTextTellsPathsApartRow.holds Try.pinned (OpenSpec.ofChange fnInputErrorTextTellsPathsApartSpec)

/-- ITS FALSE NEIGHBOUR: 'it returns false'. Refute it at one input. -/
def fnInputErrorTextTellsPathsApartWrong : ChangeSpec := { name := "fnInputErrorTextTellsPathsApart", fn := fun _ => fun
  | [d1, d2, d3] => { results := [.lit (.bool false)], args := [d1, d2, d3] }
  | _ => none }
def FnInputErrorTextTellsPathsApartWrongFalsely : Prop := fnInputErrorTextTellsPathsApartRow.holds Try.pinned (OpenSpec.ofChange fnInputErrorTextTellsPathsApartWrong)

end Rows
end Go.Proofs.Qxb6609528a
