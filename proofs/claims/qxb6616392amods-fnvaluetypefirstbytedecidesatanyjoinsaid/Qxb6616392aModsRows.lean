/-
  No cell of these rows narrows 'for every input' (looked for: loops, veiled, ifaces, maps, wideKeys, modest, calm, conditions, laid).
  DERIVED. THE GIVEN ROWS OF THIS SEAT. 3 by the template 'for every input the law returns true; each argument reads behind the call as it read before'; 0 by the template 'total and deterministic' (their statements: Qxb6616392aModsTotals.lean).
  GIVEN WITH THE SEED: the statements are not yours to turn. If you find one false, say at which input.
  Laid BY PROGRAM, IN A SANDBOX (cutbox-rows.mjs): the forced cells as the released guide's own fill.sh prints them over the translation f5f922f2010a9f72… (all of the seat's roots in one cut). By AI agents, Wed Nov 11 2026. No macro, syntax, notation, axiom, sorry.
-/
import Derived.Test.Qxb6616392aModsChecked
import GoSem.Claim
import GoSem.ClaimJoined
import GoSem.ClaimMapViews
import Derived.JoinedTies
import Derived.KernelRfl
namespace Go.Proofs.Qxb6616392aMods
/- THE CELL 'sum', in the pinned program and in every row, IS THE sha256 OF THE DUMP (.gsa) THAT Qxb6616392aModsProg.lean LOADS. Nothing in Lean hashes anything: it is a label: what it is worth is what the hold of that sum in a sandbox is worth. -/
noncomputable def Trym.pinned : Pinned := { name := "qxb6616392amods", sum := "f5f922f2010a9f72c4271a2960e08a7715f63cb1389f6720e2adc5eb103c8838", checked := Trym.checked }
namespace Rows
def none {H : Type} : Left H := { results := [], args := [] }

/-- 'zzlaws_internal_manifest_b1.FnValueTypeFirstByteDecidesAtAnyJoin': WHATEVER THE INPUT: true; the input reads as it did. -/
def fnValueTypeFirstByteDecidesAtAnyJoinSpec : ChangeSpec := { name := "fnValueTypeFirstByteDecidesAtAnyJoin", fn := fun _ => fun
  | [d1, d2] => { results := [.lit (.bool true)], args := [d1, d2] }
  | _ => none }
def fnValueTypeFirstByteDecidesAtAnyJoinRow : OpenClaim := { program := "qxb6616392amods", sum := "f5f922f2010a9f72c4271a2960e08a7715f63cb1389f6720e2adc5eb103c8838", func := "example.com/claimwright/claimwright/zzlaws_internal_manifest_b1.FnValueTypeFirstByteDecidesAtAnyJoin", spec := "fnValueTypeFirstByteDecidesAtAnyJoin", make := .lifted ["publicsums"], apart := false }
def FnValueTypeFirstByteDecidesAtAnyJoinSaid : Prop := fnValueTypeFirstByteDecidesAtAnyJoinRow.holds Trym.pinned (OpenSpec.ofChange fnValueTypeFirstByteDecidesAtAnyJoinSpec)

/-- ITS FALSE NEIGHBOUR: 'it returns false'. Refute it at one input. -/
def fnValueTypeFirstByteDecidesAtAnyJoinWrong : ChangeSpec := { name := "fnValueTypeFirstByteDecidesAtAnyJoin", fn := fun _ => fun
  | [d1, d2] => { results := [.lit (.bool false)], args := [d1, d2] }
  | _ => none }
def FnValueTypeFirstByteDecidesAtAnyJoinWrongFalsely : Prop := fnValueTypeFirstByteDecidesAtAnyJoinRow.holds Trym.pinned (OpenSpec.ofChange fnValueTypeFirstByteDecidesAtAnyJoinWrong)

/-- 'zzlaws_internal_manifest_b1.FnWithNumbersSliceConvertsEachNumberInPlace': WHATEVER THE INPUT: true; the input reads as it did. -/
def fnWithNumbersSliceConvertsEachNumberInPlaceSpec : ChangeSpec := { name := "fnWithNumbersSliceConvertsEachNumberInPlace", fn := fun _ => fun
  | [d1, d2] => { results := [.lit (.bool true)], args := [d1, d2] }
  | _ => none }
def fnWithNumbersSliceConvertsEachNumberInPlaceRow : OpenClaim := { program := "qxb6616392amods", sum := "f5f922f2010a9f72c4271a2960e08a7715f63cb1389f6720e2adc5eb103c8838", func := "example.com/claimwright/claimwright/zzlaws_internal_manifest_b1.FnWithNumbersSliceConvertsEachNumberInPlace", spec := "fnWithNumbersSliceConvertsEachNumberInPlace", unfollowed := true, recurses := true, make := .lifted ["publicsums"], apart := false }
def FnWithNumbersSliceConvertsEachNumberInPlaceSaid : Prop := fnWithNumbersSliceConvertsEachNumberInPlaceRow.holds Trym.pinned (OpenSpec.ofChange fnWithNumbersSliceConvertsEachNumberInPlaceSpec)

/-- ITS FALSE NEIGHBOUR: 'it returns false'. Refute it at one input. -/
def fnWithNumbersSliceConvertsEachNumberInPlaceWrong : ChangeSpec := { name := "fnWithNumbersSliceConvertsEachNumberInPlace", fn := fun _ => fun
  | [d1, d2] => { results := [.lit (.bool false)], args := [d1, d2] }
  | _ => none }
def FnWithNumbersSliceConvertsEachNumberInPlaceWrongFalsely : Prop := fnWithNumbersSliceConvertsEachNumberInPlaceRow.holds Trym.pinned (OpenSpec.ofChange fnWithNumbersSliceConvertsEachNumberInPlaceWrong)

/-- 'zzlaws_internal_manifest_b1.FnWithNumbersMapLastKeyWinsConvertedInPlace': WHATEVER THE INPUT: true; the input reads as it did. -/
def fnWithNumbersMapLastKeyWinsConvertedInPlaceSpec : ChangeSpec := { name := "fnWithNumbersMapLastKeyWinsConvertedInPlace", fn := fun _ => fun
  | [d1, d2, d3] => { results := [.lit (.bool true)], args := [d1, d2, d3] }
  | _ => none }
def fnWithNumbersMapLastKeyWinsConvertedInPlaceRow : OpenClaim := { program := "qxb6616392amods", sum := "f5f922f2010a9f72c4271a2960e08a7715f63cb1389f6720e2adc5eb103c8838", func := "example.com/claimwright/claimwright/zzlaws_internal_manifest_b1.FnWithNumbersMapLastKeyWinsConvertedInPlace", spec := "fnWithNumbersMapLastKeyWinsConvertedInPlace", unfollowed := true, recurses := true, make := .lifted ["publicsums"], apart := false }
def FnWithNumbersMapLastKeyWinsConvertedInPlaceSaid : Prop := fnWithNumbersMapLastKeyWinsConvertedInPlaceRow.holds Trym.pinned (OpenSpec.ofChange fnWithNumbersMapLastKeyWinsConvertedInPlaceSpec)

/-- ITS FALSE NEIGHBOUR: 'it returns false'. Refute it at one input. -/
def fnWithNumbersMapLastKeyWinsConvertedInPlaceWrong : ChangeSpec := { name := "fnWithNumbersMapLastKeyWinsConvertedInPlace", fn := fun _ => fun
  | [d1, d2, d3] => { results := [.lit (.bool false)], args := [d1, d2, d3] }
  | _ => none }
def FnWithNumbersMapLastKeyWinsConvertedInPlaceWrongFalsely : Prop := fnWithNumbersMapLastKeyWinsConvertedInPlaceRow.holds Trym.pinned (OpenSpec.ofChange fnWithNumbersMapLastKeyWinsConvertedInPlaceWrong)

end Rows
end Go.Proofs.Qxb6616392aMods
