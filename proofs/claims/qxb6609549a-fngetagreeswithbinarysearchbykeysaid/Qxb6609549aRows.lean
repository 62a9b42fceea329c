/-
  No cell of these rows narrows 'for every input' (looked for: loops, veiled, ifaces, maps, wideKeys, modest, calm, conditions, laid).
  DERIVED. THE GIVEN ROWS OF THIS SEAT. 4 by the template 'for every input the law returns true; each argument reads behind the call as it read before'; 0 by the template 'total and deterministic' (their statements: Qxb6609549aTotals.lean).
  GIVEN WITH THE SEED: the statements are not yours to turn. If you find one false, say at which input.
  Laid BY PROGRAM, IN A SANDBOX (cutbox-rows.mjs): the forced cells as the released guide's own fill.sh prints them over the translation 34d99beed3bf62a3… (all of the seat's roots in one cut). By AI agents, Wed Nov 11 2026. No macro, syntax, notation, axiom, sorry.
-/
import Derived.Test.Qxb6609549aChecked
import GoSem.Claim
import GoSem.ClaimJoined
import GoSem.ClaimMapViews
import Derived.JoinedTies
import Derived.KernelRfl
namespace Go.Proofs.Qxb6609549a
/- THE CELL 'sum', in the pinned program and in every row, IS THE sha256 OF THE DUMP (.gsa) THAT Qxb6609549aProg.lean LOADS. Nothing in Lean hashes anything: it is a label: what it is worth is what the hold of that sum in a sandbox is worth. -/
noncomputable def Try.pinned : Pinned := { name := "qxb6609549a", sum := "34d99beed3bf62a3a7f06f34814adc8d3b38bdb757ec75acac38c7bf263a0c48", checked := Try.checked }
namespace Rows
def none {H : Type} : Left H := { results := [], args := [] }

/-- 'zzlaws_bencode_b1.FnGetReturnsFirstEntryOfKey': WHATEVER THE INPUT: true; the input reads as it did. -/
def fnGetReturnsFirstEntryOfKeySpec : ChangeSpec := { name := "fnGetReturnsFirstEntryOfKey", fn := fun _ => fun
  | [d1, d2, d3] => { results := [.lit (.bool true)], args := [d1, d2, d3] }
  | _ => none }
def fnGetReturnsFirstEntryOfKeyRow : OpenClaim := { program := "qxb6609549a", sum := "34d99beed3bf62a3a7f06f34814adc8d3b38bdb757ec75acac38c7bf263a0c48", func := "example.com/swarmwire/swarmwire/zzlaws_bencode_b1.FnGetReturnsFirstEntryOfKey", spec := "fnGetReturnsFirstEntryOfKey", apart := false }
def FnGetReturnsFirstEntryOfKeySaid : Prop := fnGetReturnsFirstEntryOfKeyRow.holds Try.pinned (OpenSpec.ofChange fnGetReturnsFirstEntryOfKeySpec)

/-- ITS FALSE NEIGHBOUR: 'it returns false'. Refute it at one input. -/
def fnGetReturnsFirstEntryOfKeyWrong : ChangeSpec := { name := "fnGetReturnsFirstEntryOfKey", fn := fun _ => fun
  | [d1, d2, d3] => { results := [.lit (.bool false)], args := [d1, d2, d3] }
  | _ => none }
def FnGetReturnsFirstEntryOfKeyWrongFalsely : Prop := fnGetReturnsFirstEntryOfKeyRow.holds Try.pinned (OpenSpec.ofChange fnGetReturnsFirstEntryOfKeyWrong)

/-- 'zzlaws_bencode_b1.FnGetAgreesWithBinarySearchByKey': WHATEVER THE INPUT: true; the input reads as it did. -/
def fnGetAgreesWithBinarySearchByKeySpec : ChangeSpec := { name := "fnGetAgreesWithBinarySearchByKey", fn := fun _ => fun
  | [d1, d2, d3] => { results := [.lit (.bool true)], args := [d1, d2, d3] }
  | _ => none }
def fnGetAgreesWithBinarySearchByKeyRow : OpenClaim := { program := "qxb6609549a", sum := "34d99beed3bf62a3a7f06f34814adc8d3b38bdb757ec75acac38c7bf263a0c48", func := "example.com/swarmwire/swarmwire/zzlaws_bencode_b1.FnGetAgreesWithBinarySearchByKey", spec := "fnGetAgreesWithBinarySearchByKey", inPlace := ["internal/bytealg.abigen_runtime_cmpstring"], apart := false }
def FnGetAgreesWithBinarySearchByKeySaid : Prop := fnGetAgreesWithBinarySearchByKeyRow.holds Try.pinned (OpenSpec.ofChange fnGetAgreesWithBinarySearchByKeySpec)

/-- ITS FALSE NEIGHBOUR: 'it returns false'. Refute it at one input. -/
def fnGetAgreesWithBinarySearchByKeyWrong : ChangeSpec := { name := "fnGetAgreesWithBinarySearchByKey", fn := fun _ => fun
  | [d1, d2, d3] => { results := [.lit (.bool false)], args := [d1, d2, d3] }
  | _ => none }
def FnGetAgreesWithBinarySearchByKeyWrongFalsely : Prop := fnGetAgreesWithBinarySearchByKeyRow.holds Try.pinned (OpenSpec.ofChange fnGetAgreesWithBinarySearchByKeyWrong)

/-- 'zzlaws_bencode_b1.FnByKeyOrdersKeysByTheirBytes': WHATEVER THE INPUT: true; the input reads as it did. -/
def fnByKeyOrdersKeysByTheirBytesSpec : ChangeSpec := { name := "fnByKeyOrdersKeysByTheirBytes", fn := fun _ => fun
  | [d1, d2, d3, d4] => { results := [.lit (.bool true)], args := [d1, d2, d3, d4] }
  | _ => none }
def fnByKeyOrdersKeysByTheirBytesRow : OpenClaim := { program := "qxb6609549a", sum := "34d99beed3bf62a3a7f06f34814adc8d3b38bdb757ec75acac38c7bf263a0c48", func := "example.com/swarmwire/swarmwire/zzlaws_bencode_b1.FnByKeyOrdersKeysByTheirBytes", spec := "fnByKeyOrdersKeysByTheirBytes", inPlace := ["internal/bytealg.abigen_runtime_cmpstring"], apart := false }
def FnByKeyOrdersKeysByTheirBytesSaid : Prop := fnByKeyOrdersKeysByTheirBytesRow.holds Try.pinned (OpenSpec.ofChange fnByKeyOrdersKeysByTheirBytesSpec)

/-- ITS FALSE NEIGHBOUR: 'it returns false'. Refute it at one input. -/
def fnByKeyOrdersKeysByTheirBytesWrong : ChangeSpec := { name := "fnByKeyOrdersKeysByTheirBytes", fn := fun _ => fun
  | [d1, d2, d3, d4] => { results := [.lit (.bool false)], args := [d1, d2, d3, d4] }
  | _ => none }
def FnByKeyOrdersKeysByTheirBytesWrongFalsely : Prop := fnByKeyOrdersKeysByTheirBytesRow.holds Try.pinned (OpenSpec.ofChange fnByKeyOrdersKeysByTheirBytesWrong)

/-- 'zzlaws_bencode_b1.FnByKeyPutsAKeyBeforeItsExtensions': WHATEVER THE INPUT: true; the input reads as it did. -/
def fnByKeyPutsAKeyBeforeItsExtensionsSpec : ChangeSpec := { name := "fnByKeyPutsAKeyBeforeItsExtensions", fn := fun _ => fun
  | [d1, d2] => { results := [.lit (.bool true)], args := [d1, d2] }
  | _ => none }
def fnByKeyPutsAKeyBeforeItsExtensionsRow : OpenClaim := { program := "qxb6609549a", sum := "34d99beed3bf62a3a7f06f34814adc8d3b38bdb757ec75acac38c7bf263a0c48", func := "example.com/swarmwire/swarmwire/zzlaws_bencode_b1.FnByKeyPutsAKeyBeforeItsExtensions", spec := "fnByKeyPutsAKeyBeforeItsExtensions", inPlace := ["internal/bytealg.abigen_runtime_cmpstring"], apart := false }
def FnByKeyPutsAKeyBeforeItsExtensionsSaid : Prop := fnByKeyPutsAKeyBeforeItsExtensionsRow.holds Try.pinned (OpenSpec.ofChange fnByKeyPutsAKeyBeforeItsExtensionsSpec)

/-- ITS FALSE NEIGHBOUR: 'it returns false'. Refute it at one input. -/
def fnByKeyPutsAKeyBeforeItsExtensionsWrong : ChangeSpec := { name := "fnByKeyPutsAKeyBeforeItsExtensions", fn := fun _ => fun
  | [d1, d2] => { results := [.lit (.bool false)], args := [d1, d2] }
  | _ => none }
def FnByKeyPutsAKeyBeforeItsExtensionsWrongFalsely : Prop := fnByKeyPutsAKeyBeforeItsExtensionsRow.holds Try.pinned (OpenSpec.ofChange fnByKeyPutsAKeyBeforeItsExtensionsWrong)

end Rows
end Go.Proofs.Qxb6609549a
