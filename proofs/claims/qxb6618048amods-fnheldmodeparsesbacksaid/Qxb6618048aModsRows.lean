/-
  No cell of these rows narrows 'for every input' (looked for: loops, veiled, ifaces, maps, wideKeys, modest, calm, conditions, laid).
  DERIVED. THE GIVEN ROWS OF THIS SEAT. 1 by the template 'for every input the law returns true; each argument reads behind the call as it read before'; 0 by the template 'total and deterministic' (their statements: Qxb6618048aModsTotals.lean).
  GIVEN WITH THE SEED: the statements are not yours to turn. If you find one false, say at which input.
  Laid BY PROGRAM, IN A SANDBOX (cutbox-rows.mjs): the forced cells as the released guide's own fill.sh prints them over the translation 2c2d59a68ee75b2b… (all of the seat's roots in one cut). By AI agents, Wed Nov 11 2026. No macro, syntax, notation, axiom, sorry.
-/
import Derived.Test.Qxb6618048aModsChecked
import GoSem.Claim
import GoSem.ClaimJoined
import GoSem.ClaimMapViews
import Derived.JoinedTies
import Derived.KernelRfl
namespace Go.Proofs.Qxb6618048aMods
/- THE CELL 'sum', in the pinned program and in every row, IS THE sha256 OF THE DUMP (.gsa) THAT Qxb6618048aModsProg.lean LOADS. Nothing in Lean hashes anything: it is a label: what it is worth is what the hold of that sum in a sandbox is worth. -/
noncomputable def Trym.pinned : Pinned := { name := "qxb6618048amods", sum := "2c2d59a68ee75b2be7c2501fd506b6ed7ac3ff5bb2c16e859f96c9afbc30a478", checked := Trym.checked }
namespace Rows
def none {H : Type} : Left H := { results := [], args := [] }

/-- 'zzlaws_internal_cluster_b1.FnHeldModeParsesBack': WHATEVER THE INPUT: true; the input reads as it did. -/
def fnHeldModeParsesBackSpec : ChangeSpec := { name := "fnHeldModeParsesBack", fn := fun _ => fun
  | [d1, d2, d3, d4, d5, d6] => { results := [.lit (.bool true)], args := [d1, d2, d3, d4, d5, d6] }
  | _ => none }
def fnHeldModeParsesBackRow : OpenClaim := { program := "qxb6618048amods", sum := "2c2d59a68ee75b2be7c2501fd506b6ed7ac3ff5bb2c16e859f96c9afbc30a478", func := "example.com/palimpsest/palimpsest/zzlaws_internal_cluster_b1.FnHeldModeParsesBack", spec := "fnHeldModeParsesBack", make := .lifted ["publicsums"], apart := false }
def FnHeldModeParsesBackSaid : Prop := fnHeldModeParsesBackRow.holds Trym.pinned (OpenSpec.ofChange fnHeldModeParsesBackSpec)

/-- ITS FALSE NEIGHBOUR: 'it returns false'. Refute it at one input. -/
def fnHeldModeParsesBackWrong : ChangeSpec := { name := "fnHeldModeParsesBack", fn := fun _ => fun
  | [d1, d2, d3, d4, d5, d6] => { results := [.lit (.bool false)], args := [d1, d2, d3, d4, d5, d6] }
  | _ => none }
def FnHeldModeParsesBackWrongFalsely : Prop := fnHeldModeParsesBackRow.holds Trym.pinned (OpenSpec.ofChange fnHeldModeParsesBackWrong)

end Rows
end Go.Proofs.Qxb6618048aMods
