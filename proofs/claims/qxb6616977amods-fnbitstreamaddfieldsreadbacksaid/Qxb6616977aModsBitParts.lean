/-
  Contracts of the functions that the two laws over bitStream call.
-/
import Derived.Test.Qxb6616977aModsRows
import Derived.Test.Qxb6616977aModsBitLaws
import Derived.WalkKit
import Derived.ProofKit
import Derived.OpenShut
import Derived.ShutString
namespace Go.Proofs.Qxb6616977aMods.bits
open Go.ChangeShapes Go.WideShapes Go.ChangeAt Go.RowKit

theorem grown_trans {a b c : World} (h : Grown a b) (k : Grown b c) : Grown a c :=
  ⟨World.keptBut_trans h.1 k.1, fun x => (k.2.1 x).trans (h.2.1 x), Nat.le_trans h.2.2 k.2.2⟩

set_option maxHeartbeats 400000 in
/-- (bitStream).add -/
theorem add_any (a n v wd : Nat) (w : World) (ha : a < 2 ^ 64) (hn : n ≤ 131072) (hv : v < 2 ^ 64) (hw : wd ≤ 255) :
    Calls Trym.prog 8 #[.agg #[.int .u64 a, .int .u64 n], .int .u64 v, .int .u8 wd] w fun e w' =>
      e = .returned (.agg #[.int .u64 (addN a n v wd), .int .u64 (n + wd : Int)]) ∧ ∃ c1 c2, (w.alloc (.cells c1 32)).alloc (.cells c2 32) = w' := by
  have hr := raw_eq a n v wd ha hv
  go_enter Trym.func8, Trym.ntmps8
  go_wp2
  refine bodyPost_ret (v := .agg #[.int .u64 (addN a n v wd), .int .u64 (n + wd : Int)]) (by simp [results, Trym.results8, go_sem]) rfl ⟨rfl, _, _, rfl⟩

set_option maxHeartbeats 400000 in
/-- ZZbitAdd -/
theorem zz_nat (a n v wd : Nat) (w : World) (ha : a < 2 ^ 64) (hn : n ≤ 131072) (hv : v < 2 ^ 64) (hw : wd ≤ 255) :
    Calls Trym.prog 5 #[.int .u64 a, .int .u64 n, .int .u64 v, .int .u8 wd] w fun e w' =>
      e = .returned (.tuple #[.int .u64 (addN a n v wd), .int .u64 (n + wd : Int)]) ∧ Grown w w' ∧ Below w.heap.size w w' := by
  go_enter Trym.func5, Trym.ntmps5
  go_wp2_with (go_at_call 8; refine (add_any _ _ _ _ _ ha hn hv hw).mono ?_; rintro e w' ⟨rfl, c1, c2, rfl⟩)
  go_region
  all_goals (try go_wp2)
  go_ret2
  refine ⟨rfl, ?_, ?_⟩
  · exact (((Grown.refl _).alloc _ _).alloc _ _).alloc _ _ |>.drew
  · exact ((((Below.refl _ _).alloc (Nat.le_refl _) _).alloc (by simp) _).alloc (by simp; omega) _).drew

/-- ZZbitAdd, its arguments as the walk spells them. -/
theorem zz_any (a n v wd : Nat) (A N V W : Int) (w : World) (hA : A = a) (hN : N = n) (hV : V = v) (hW : W = wd) (ha : a < 2 ^ 64) (hn : n ≤ 131072) (hv : v < 2 ^ 64) (hw : wd ≤ 255) :
    Calls Trym.prog 5 #[.int .u64 A, .int .u64 N, .int .u64 V, .int .u8 W] w fun e w' =>
      e = .returned (.tuple #[.int .u64 (addN a n v wd), .int .u64 (n + wd : Int)]) ∧ Grown w w' ∧ Below w.heap.size w w' := by
  subst hA hN hV hW
  exact zz_nat a n v wd w ha hn hv hw

end Go.Proofs.Qxb6616977aMods.bits
