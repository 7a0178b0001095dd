/-
  No cell of these rows narrows 'for every input' (looked for: loops, veiled, ifaces, maps, wideKeys, modest, calm, conditions, laid).
  DERIVED. THE GIVEN ROWS OF THIS SEAT. 2 by the template 'for every input the law returns true; each argument reads behind the call as it read before'; 0 by the template 'total and deterministic' (their statements: Qxb6616977aModsTotals.lean).
  GIVEN WITH THE SEED: the statements are not yours to turn. If you find one false, say at which input.
  Laid BY PROGRAM, IN A SANDBOX (cutbox-rows.mjs): the forced cells as the released guide's own fill.sh prints them over the translation ea8bc40b9305768e… (all of the seat's roots in one cut). By AI agents, Wed Nov 11 2026. No macro, syntax, notation, axiom, sorry.
-/
import Derived.Test.Qxb6616977aModsChecked
import GoSem.Claim
import GoSem.ClaimJoined
import GoSem.ClaimMapViews
import Derived.JoinedTies
import Derived.KernelRfl
namespace Go.Proofs.Qxb6616977aMods
/- THE CELL 'sum', in the pinned program and in every row, IS THE sha256 OF THE DUMP (.gsa) THAT Qxb6616977aModsProg.lean LOADS. Nothing in Lean hashes anything: it is a label: what it is worth is what the hold of that sum in a sandbox is worth. -/
noncomputable def Trym.pinned : Pinned := { name := "qxb6616977amods", sum := "ea8bc40b9305768eb8e46e5e1154e8032c1d8934d27a770c35f2806bdb72b018", checked := Trym.checked }
namespace Rows
def none {H : Type} : Left H := { results := [], args := [] }

/-- 'zzlaws_pkg_compress_b1.FnBitStreamAddSplitAndPlace': WHATEVER THE INPUT: true; the input reads as it did. -/
def fnBitStreamAddSplitAndPlaceSpec : ChangeSpec := { name := "fnBitStreamAddSplitAndPlace", fn := fun _ => fun
  | [d1, d2, d3, d4, d5] => { results := [.lit (.bool true)], args := [d1, d2, d3, d4, d5] }
  | _ => none }
def fnBitStreamAddSplitAndPlaceRow : OpenClaim := { program := "qxb6616977amods", sum := "ea8bc40b9305768eb8e46e5e1154e8032c1d8934d27a770c35f2806bdb72b018", func := "example.com/halyard/halyard/zzlaws_pkg_compress_b1.FnBitStreamAddSplitAndPlace", spec := "fnBitStreamAddSplitAndPlace", make := .lifted ["publicsums"], apart := false }
def FnBitStreamAddSplitAndPlaceSaid : Prop := fnBitStreamAddSplitAndPlaceRow.holds Trym.pinned (OpenSpec.ofChange fnBitStreamAddSplitAndPlaceSpec)

/-- ITS FALSE NEIGHBOUR: 'it returns false'. Refute it at one input. -/
def fnBitStreamAddSplitAndPlaceWrong : ChangeSpec := { name := "fnBitStreamAddSplitAndPlace", fn := fun _ => fun
  | [d1, d2, d3, d4, d5] => { results := [.lit (.bool false)], args := [d1, d2, d3, d4, d5] }
  | _ => none }
def FnBitStreamAddSplitAndPlaceWrongFalsely : Prop := fnBitStreamAddSplitAndPlaceRow.holds Trym.pinned (OpenSpec.ofChange fnBitStreamAddSplitAndPlaceWrong)

/-- 'zzlaws_pkg_compress_b1.FnBitStreamAddFieldsReadBack': WHATEVER THE INPUT: true; the input reads as it did. -/
def fnBitStreamAddFieldsReadBackSpec : ChangeSpec := { name := "fnBitStreamAddFieldsReadBack", fn := fun _ => fun
  | [d1, d2, d3, d4] => { results := [.lit (.bool true)], args := [d1, d2, d3, d4] }
  | _ => none }
def fnBitStreamAddFieldsReadBackRow : OpenClaim := { program := "qxb6616977amods", sum := "ea8bc40b9305768eb8e46e5e1154e8032c1d8934d27a770c35f2806bdb72b018", func := "example.com/halyard/halyard/zzlaws_pkg_compress_b1.FnBitStreamAddFieldsReadBack", spec := "fnBitStreamAddFieldsReadBack", make := .lifted ["publicsums"], apart := false }
def FnBitStreamAddFieldsReadBackSaid : Prop := fnBitStreamAddFieldsReadBackRow.holds Trym.pinned (OpenSpec.ofChange fnBitStreamAddFieldsReadBackSpec)

/-- ITS FALSE NEIGHBOUR: 'it returns false'. Refute it at one input. -/
def fnBitStreamAddFieldsReadBackWrong : ChangeSpec := { name := "fnBitStreamAddFieldsReadBack", fn := fun _ => fun
  | [d1, d2, d3, d4] => { results := [.lit (.bool false)], args := [d1, d2, d3, d4] }
  | _ => none }
def FnBitStreamAddFieldsReadBackWrongFalsely : Prop := fnBitStreamAddFieldsReadBackRow.holds Trym.pinned (OpenSpec.ofChange fnBitStreamAddFieldsReadBackWrong)

end Rows
end Go.Proofs.Qxb6616977aMods
