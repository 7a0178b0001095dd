/-
  Contracts of zzBytes and zzLow, and what the walk of FnBitStreamAddFieldsReadBack says of a slice.
-/
import Derived.Test.Qxb6616977aModsRows
import Derived.Test.Qxb6616977aModsFieldLaws
import Derived.WalkKit
import Derived.ProofKit
import Derived.OpenShut
import Derived.ShutString
import Derived.Below
namespace Go.Proofs.Qxb6616977aMods.bits
open Go.ChangeShapes Go.WideShapes Go.ChangeAt Go.RowKit

theorem bytes_yes (x y : Int) (p0 p1 : Option Addr) (l0 c0 l1 c1 : Nat) (w : World) (h : l0 + l1 ≤ 1048576) :
    Calls Trym.prog 6 #[.int .u64 x, .int .u64 y, .slice p0 l0 c0, .slice p1 l1 c1] w fun e w' => e = .returned (.bool true) ∧ w = w' := by
  go_enter Trym.func6, Trym.ntmps6
  go_wp2
  go_ret
  exact ⟨rfl, rfl⟩

theorem bytes_no (x y : Int) (p0 p1 : Option Addr) (l0 c0 l1 c1 : Nat) (w : World) (hm0 : l0 ≤ 9223372036854775807) (hm1 : l1 ≤ 9223372036854775807) (h : 1048576 < l0 + l1) :
    Calls Trym.prog 6 #[.int .u64 x, .int .u64 y, .slice p0 l0 c0, .slice p1 l1 c1] w fun e w' => e = .returned (.bool false) ∧ w = w' := by
  by_cases h0 : 1048576 < l0
  · go_enter Trym.func6, Trym.ntmps6
    go_wp2
    go_ret
    exact ⟨rfl, rfl⟩
  · by_cases h1 : 1048576 < l1
    · go_enter Trym.func6, Trym.ntmps6
      go_wp2
      go_ret
      exact ⟨rfl, rfl⟩
    · go_enter Trym.func6, Trym.ntmps6
      go_wp2
      go_ret
      exact ⟨rfl, rfl⟩

theorem ret_u64 {a b : Int} (h : a = b) : Ending.returned (.int .u64 a) = .returned (.int .u64 b) := by rw [h]

theorem low_wide (x wd : Int) (h0 : 0 ≤ x) (h1 : x < 2 ^ 64) (hw : 64 ≤ wd) : lowI x wd = x := by
  unfold lowI
  rw [show min wd.toNat 64 = 64 by omega]
  omega

theorem low_raw (x wd : Nat) (hx : x < 2 ^ 64) (hw : wd < 64) : bits .and .u64 (x : Int) (IntKind.u64.wrap (IntKind.u64.wrap (2 ^ wd) - 1)) = lowI x wd := by
  have hp : 0 < 2 ^ wd := Nat.pow_pos (by decide)
  have hle : 2 ^ wd ≤ 2 ^ 64 := Nat.pow_le_pow_right (by decide) (by omega)
  have hc : IntKind.u64.wrap (IntKind.u64.wrap (2 ^ wd) - 1) = ((2 ^ wd - 1 : Nat) : Int) := by
    have e : ((2 : Int) ^ wd) = ((2 ^ wd : Nat) : Int) := by simp
    rw [IntKind.wrap_u64, IntKind.wrap_u64, e]
    omega
  rw [hc, bits_and_u64_nat x _ (by omega) (by omega), Nat.and_two_pow_sub_one_eq_mod]
  unfold lowI
  rw [show min ((wd : Int)).toNat 64 = wd by simp; omega]
  simp

theorem low_any (x wd : Int) (w : World) (h0 : 0 ≤ x) (h1 : x < 2 ^ 64) (h2 : 0 ≤ wd) :
    Calls Trym.prog 7 #[.int .u64 x, .int .u64 wd] w fun e w' => e = .returned (.int .u64 (lowI x wd)) ∧ w' = w := by
  by_cases hw : 64 ≤ wd
  · have hl : Hid (lowI x wd = x) := low_wide x wd h0 h1 hw
    clear h1
    go_enter Trym.func7, Trym.ntmps7
    go_wp2
    go_ret
    exact ⟨ret_u64 hl.out.symm, rfl⟩
  · obtain ⟨m, rfl⟩ := Int.eq_ofNat_of_zero_le h2
    obtain ⟨y, rfl⟩ := Int.eq_ofNat_of_zero_le h0
    have hl := low_raw y m (by omega) (by omega)
    clear h1
    go_enter Trym.func7, Trym.ntmps7
    go_wp2
    go_ret
    exact ⟨rfl, rfl⟩

/-- The slice at p reads in w as the numbers f 0, .., f (N - 1), of kind k. -/
def Rd (k : IntKind) (w : World) (p : Option Addr) (N : Nat) (f : Nat → Nat) : Prop :=
  0 < N → ∃ b o, p = some ⟨b, o, none⟩ ∧ ∀ j, j < N → w.cell? ⟨b, o + j, none⟩ = some (.int k (f j : Nat))

theorem lt_of_cell {w : World} {a : Addr} {v : Value} (h : w.cell? a = some v) : a.block < w.heap.size := by
  unfold World.cell? at h
  by_cases hb : a.block < w.heap.size
  · exact hb
  · rw [show w.heap[a.block]? = none from by simp; omega] at h
    simp at h

theorem Rd.below {k : IntKind} {w w' : World} {p : Option Addr} {N : Nat} {f : Nat → Nat} (h : Rd k w p N f) (hb : Below w.heap.size w w') : Rd k w' p N f := by
  intro hN
  obtain ⟨b, o, hp, hc⟩ := h hN
  exact ⟨b, o, hp, fun j hj => (hb.cell (lt_of_cell (hc j hj))).trans (hc j hj)⟩

end Go.Proofs.Qxb6616977aMods.bits
