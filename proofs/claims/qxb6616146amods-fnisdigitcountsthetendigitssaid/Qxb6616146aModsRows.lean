/-
  No cell of these rows narrows 'for every input' (looked for: loops, veiled, ifaces, maps, wideKeys, modest, calm, conditions, laid).
  DERIVED. THE GIVEN ROWS OF THIS SEAT. 1 by the template 'for every input the law returns true; each argument reads behind the call as it read before'; 0 by the template 'total and deterministic' (their statements: Qxb6616146aModsTotals.lean).
  GIVEN WITH THE SEED: the statements are not yours to turn. If you find one false, say at which input.
  Laid BY PROGRAM, IN A SANDBOX (cutbox-rows.mjs): the forced cells as the released guide's own fill.sh prints them over the translation cc9a9ebbc463d847… (all of the seat's roots in one cut). By AI agents, Wed Nov 11 2026. No macro, syntax, notation, axiom, sorry.
-/
import Derived.Test.Qxb6616146aModsChecked
import GoSem.Claim
import GoSem.ClaimJoined
import GoSem.ClaimMapViews
import Derived.JoinedTies
import Derived.KernelRfl
namespace Go.Proofs.Qxb6616146aMods
/- THE CELL 'sum', in the pinned program and in every row, IS THE sha256 OF THE DUMP (.gsa) THAT Qxb6616146aModsProg.lean LOADS. Nothing in Lean hashes anything: it is a label: what it is worth is what the hold of that sum in a sandbox is worth. -/
noncomputable def Trym.pinned : Pinned := { name := "qxb6616146amods", sum := "cc9a9ebbc463d84728509ab5bd45d35bedd2c3dd363aa9eed5601b68b5d10ba3", checked := Trym.checked }
namespace Rows
def none {H : Type} : Left H := { results := [], args := [] }

/-- 'zzlaws_spanfilter_b1.FnIsDigitCountsTheTenDigits': WHATEVER THE INPUT: true; the input reads as it did. -/
def fnIsDigitCountsTheTenDigitsSpec : ChangeSpec := { name := "fnIsDigitCountsTheTenDigits", fn := fun _ => fun
  | [d] => { results := [.lit (.bool true)], args := [d] }
  | _ => none }
def fnIsDigitCountsTheTenDigitsRow : OpenClaim := { program := "qxb6616146amods", sum := "cc9a9ebbc463d84728509ab5bd45d35bedd2c3dd363aa9eed5601b68b5d10ba3", func := "example.com/spanlantern/spanlantern/zzlaws_spanfilter_b1.FnIsDigitCountsTheTenDigits", spec := "fnIsDigitCountsTheTenDigits", make := .lifted ["publicsums"], apart := false }
def FnIsDigitCountsTheTenDigitsSaid : Prop := fnIsDigitCountsTheTenDigitsRow.holds Trym.pinned (OpenSpec.ofChange fnIsDigitCountsTheTenDigitsSpec)

/-- ITS FALSE NEIGHBOUR: 'it returns false'. Refute it at one input. -/
def fnIsDigitCountsTheTenDigitsWrong : ChangeSpec := { name := "fnIsDigitCountsTheTenDigits", fn := fun _ => fun
  | [d] => { results := [.lit (.bool false)], args := [d] }
  | _ => none }
def FnIsDigitCountsTheTenDigitsWrongFalsely : Prop := fnIsDigitCountsTheTenDigitsRow.holds Trym.pinned (OpenSpec.ofChange fnIsDigitCountsTheTenDigitsWrong)

end Rows
end Go.Proofs.Qxb6616146aMods
