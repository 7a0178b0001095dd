/-
  Contracts of the functions that FnValueTypeFirstByteDecidesAtAnyJoin calls.
-/
import Derived.Test.Qxb6616392aModsRows
import Derived.WalkKit
import Derived.ProofKit
import Derived.OpenShut
import Derived.ShutString
import Derived.ChangeOld
import Derived.Below
namespace Go.Proofs.Qxb6616392aMods.fnValueTypeFirstByteDecidesAtAnyJoin
open Go.ChangeShapes Go.WideShapes Go.ChangeAt Go.RowKit

/-- zzBytes: within the bound. -/
theorem bytes_yes (p0 p1 : Option Addr) (l0 c0 l1 c1 : Nat) (w : World) (h : l0 + l1 ≤ 1048576) :
    Calls Trym.prog 6 #[.slice p0 l0 c0, .slice p1 l1 c1] w fun e w' => e = .returned (.bool true) ∧ w = w' := by
  go_enter Trym.func6, Trym.ntmps6
  go_wp2
  go_ret
  exact ⟨rfl, rfl⟩

theorem bytes_no (p0 p1 : Option Addr) (l0 c0 l1 c1 : Nat) (w : World) (hm0 : l0 ≤ 9223372036854775807) (hm1 : l1 ≤ 9223372036854775807) (h : 1048576 < l0 + l1) :
    Calls Trym.prog 6 #[.slice p0 l0 c0, .slice p1 l1 c1] w fun e w' => e = .returned (.bool false) ∧ w = w' := by
  by_cases h0 : 1048576 < l0
  · go_enter Trym.func6, Trym.ntmps6
    go_wp2
    go_ret
    exact ⟨rfl, rfl⟩
  · by_cases h1 : 1048576 < l1
    · go_enter Trym.func6, Trym.ntmps6
      go_wp2
      go_ret
      exact ⟨rfl, rfl⟩
    · go_enter Trym.func6, Trym.ntmps6
      go_wp2
      go_ret
      exact ⟨rfl, rfl⟩

/-- THE PLAIN FUNCTION: the name of the type that a first byte tells; 110 (n) stands for no byte at all, too. -/
def nm (x : Int) : ByteArray :=
  if (x == 123) = true then { data := #[97, 110, 32, 111, 98, 106, 101, 99, 116] }
  else if (x == 91) = true then { data := #[97, 110, 32, 97, 114, 114, 97, 121] }
  else if (x == 34) = true then { data := #[97, 32, 115, 116, 114, 105, 110, 103] }
  else if (x == 116) = true then { data := #[97, 32, 98, 111, 111, 108, 101, 97, 110] }
  else if (x == 102) = true then { data := #[97, 32, 98, 111, 111, 108, 101, 97, 110] }
  else if (x == 110) = true then { data := #[110, 117, 108, 108] }
  else { data := #[97, 32, 110, 117, 109, 98, 101, 114] }

theorem type_null (p : Option Addr) (c : Nat) (w : World) :
    Calls Trym.prog 13 #[.slice p 0 c] w fun e w' => e = .returned (.string (nm 110)) ∧ w = w' := by
  go_enter Trym.func13, Trym.ntmps13
  go_wp2
  go_ret
  exact ⟨rfl, rfl⟩

theorem ret_str {a b : ByteArray} (h : a = b) : Ending.returned (.string a) = .returned (.string b) := by rw [h]

theorem type_of (b off l c : Nat) (w : World) (x : Int) (hl : 0 < l) (hc : w.cell? ⟨b, off, none⟩ = some (.int .u8 x)) :
    Calls Trym.prog 13 #[.slice (some ⟨b, off, none⟩) l c] w fun e w' => e = .returned (.string (nm x)) ∧ w = w' := by
  go_enter Trym.func13, Trym.ntmps13
  go_wp2
  all_goals
    go_ret
    exact ⟨ret_str (by unfold nm; simp only [*]; rfl), rfl⟩

theorem name_of (x : Int) (w : World) :
    Calls Trym.prog 8 #[.string (nm x)] w fun e w' => e = .returned (.bool true) ∧ w = w' := by
  unfold nm
  repeat' split
  all_goals
    go_enter Trym.func8, Trym.ntmps8
    go_wp2
    go_ret
    exact ⟨rfl, rfl⟩

theorem obj (x : Int) : ((nm x).toList == [97, 110, 32, 111, 98, 106, 101, 99, 116]) = (x == 123) := by
  unfold nm
  repeat' split
  all_goals (simp_all <;> decide)

theorem obj_null : ((nm 110).toList == [97, 110, 32, 111, 98, 106, 101, 99, 116]) = false := by rw [obj]; rfl

theorem vt_null (p : Option Addr) (c : Nat) (w : World) :
    Calls Trym.prog 7 #[.slice p 0 c] w fun e w' => e = .returned (.tuple #[.string (nm 110), .bool false]) ∧ w = w' := by
  have ho := obj_null
  go_enter Trym.func7, Trym.ntmps7
  go_wp2_with (go_at_call 13; refine (type_null _ _ _).mono ?_; rintro e w' ⟨rfl, rfl⟩)
  go_ret2
  exact ⟨rfl, rfl⟩

theorem vt_of (b off l c : Nat) (w : World) (x : Int) (hl : 0 < l) (hc : w.cell? ⟨b, off, none⟩ = some (.int .u8 x)) :
    Calls Trym.prog 7 #[.slice (some ⟨b, off, none⟩) l c] w fun e w' => e = .returned (.tuple #[.string (nm x), .bool (x == 123)]) ∧ w = w' := by
  have ho := obj x
  go_enter Trym.func7, Trym.ntmps7
  go_wp2_with (go_at_call 13; refine (type_of _ _ _ _ _ x hl hc).mono ?_; rintro e w' ⟨rfl, rfl⟩)
  go_ret2
  exact ⟨rfl, rfl⟩

end Go.Proofs.Qxb6616392aMods.fnValueTypeFirstByteDecidesAtAnyJoin
