/-
  No cell of these rows narrows 'for every input' (looked for: loops, veiled, ifaces, maps, wideKeys, modest, calm, conditions, laid).
  DERIVED. THE GIVEN ROWS OF THIS SEAT. 1 by the template 'for every input the law returns true; each argument reads behind the call as it read before'; 0 by the template 'total and deterministic' (their statements: Qxb6609549aFmtTotals.lean).
  GIVEN WITH THE SEED: the statements are not yours to turn. If you find one false, say at which input.
  Laid BY PROGRAM, IN A SANDBOX (cutbox-rows.mjs): the forced cells as the released guide's own fill.sh prints them over the translation d30ea3f8d53604cc… (all of the seat's roots in one cut). By AI agents, Wed Nov 11 2026. No macro, syntax, notation, axiom, sorry.
-/
import Derived.Test.Qxb6609549aFmtChecked
import GoSem.Claim
import GoSem.ClaimJoined
import GoSem.ClaimMapViews
import Derived.JoinedTies
import Derived.KernelRfl
namespace Go.Proofs.Qxb6609549aFmt
/- THE CELL 'sum', in the pinned program and in every row, IS THE sha256 OF THE DUMP (.gsa) THAT Qxb6609549aFmtProg.lean LOADS. Nothing in Lean hashes anything: it is a label: what it is worth is what the hold of that sum in a sandbox is worth. -/
noncomputable def Tryf.pinned : Pinned := { name := "qxb6609549afmt", sum := "d30ea3f8d53604cc4abf398b5aff383dfda10be4213c7baa15936b9dd4b9a0cf", checked := Tryf.checked }
namespace Rows
def none {H : Type} : Left H := { results := [], args := [] }

/-- 'zzlaws_bencode_b1.FnNextReadsItsOwnViewWhole': WHATEVER THE INPUT: true; the input reads as it did. -/
def fnNextReadsItsOwnViewWholeSpec : ChangeSpec := { name := "fnNextReadsItsOwnViewWhole", fn := fun _ => fun
  | [d1, d2, d3, d4, d5] => { results := [.lit (.bool true)], args := [d1, d2, d3, d4, d5] }
  | _ => none }
def fnNextReadsItsOwnViewWholeRow : OpenClaim := { program := "qxb6609549afmt", sum := "d30ea3f8d53604cc4abf398b5aff383dfda10be4213c7baa15936b9dd4b9a0cf", func := "example.com/swarmwire/swarmwire/zzlaws_bencode_b1.FnNextReadsItsOwnViewWhole", spec := "fnNextReadsItsOwnViewWhole", stops := ["fmt.Sprintf, its operands' methods called", "fmt.errorf"], inPlace := ["fmt.Sprintf", "fmt.errorf", "internal/bytealg.Compare"], unfollowed := true, recurses := true, apart := false }
/-- NO THEOREM (fmt's text is open here; it may be false): for the released tool's asking of the row's closed facts alone. THE STATEMENT IS 'FnNextReadsItsOwnViewWholeToldSaid' (Qxb6609549aFmtCards.lean). -/
def FnNextReadsItsOwnViewWholeFormAsk : Prop := fnNextReadsItsOwnViewWholeRow.holds Tryf.pinned (OpenSpec.ofChange fnNextReadsItsOwnViewWholeSpec)

/-- ITS FALSE NEIGHBOUR: 'it returns false'. Refute it at one input. -/
def fnNextReadsItsOwnViewWholeWrong : ChangeSpec := { name := "fnNextReadsItsOwnViewWhole", fn := fun _ => fun
  | [d1, d2, d3, d4, d5] => { results := [.lit (.bool false)], args := [d1, d2, d3, d4, d5] }
  | _ => none }
def FnNextReadsItsOwnViewWholeWrongFormAsk : Prop := fnNextReadsItsOwnViewWholeRow.holds Tryf.pinned (OpenSpec.ofChange fnNextReadsItsOwnViewWholeWrong)

end Rows
end Go.Proofs.Qxb6609549aFmt
