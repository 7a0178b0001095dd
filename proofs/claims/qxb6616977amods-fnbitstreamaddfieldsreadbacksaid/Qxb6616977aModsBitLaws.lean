/-
  The plain laws under FnBitStreamAddSplitAndPlace and FnBitStreamAddFieldsReadBack: numbers alone, no Go text in sight.
-/
import Derived.Laws.Bits64b
namespace Go.Proofs.Qxb6616977aMods.bits

/-- THE PLAIN FUNCTION: what add makes of the bits a (n of them), the field v and its width wd. -/
def addN (a n v wd : Nat) : Nat := a ||| ((v &&& (2 ^ min wd 64 - 1)) * 2 ^ min n 64 % 2 ^ 64)

theorem addN_bit (a n v wd i : Nat) :
    (addN a n v wd).testBit i = (a.testBit i || (decide (i < 64) && (decide (n ≤ i) && (v.testBit (i - n) && decide (i - n < wd))))) := by
  unfold addN
  rw [Nat.testBit_or, Nat.testBit_mod_two_pow, Nat.testBit_mul_two_pow, Nat.testBit_and, Nat.testBit_two_pow_sub_one]
  by_cases h : i < 64
  · by_cases hn : n ≤ i
    · have e : min n 64 = n := by omega
      have e2 : decide (i - n < min wd 64) = decide (i - n < wd) := by simp; omega
      rw [e, e2]
    · simp [h, hn]; omega
  · simp [h]

theorem addN_lt (a n v wd : Nat) (ha : a < 2 ^ 64) : addN a n v wd < 2 ^ 64 := by
  unfold addN
  exact Nat.or_lt_two_pow ha (Nat.mod_lt _ (by decide))

/-- Splitting a field at k. -/
theorem addN_split (a n v wd k : Nat) (hk : k ≤ wd) : addN (addN a n v k) (n + k) (v / 2 ^ min k 64) (wd - k) = addN a n v wd := by
  apply Nat.eq_of_testBit_eq
  intro i
  rw [addN_bit, addN_bit, addN_bit, Nat.testBit_div_two_pow]
  by_cases h : i < 64
  · by_cases hn : n ≤ i
    · by_cases h2 : n + k ≤ i
      · have e : i - (n + k) + min k 64 = i - n := by omega
        rw [e]
        have e1 : decide (i - n < k) = false := by simp; omega
        have e2 : decide (i - (n + k) < wd - k) = decide (i - n < wd) := by simp; omega
        simp [h, hn, h2, e1, e2]
      · have e1 : i - n < k := by omega
        have e2 : i - n < wd := by omega
        simp [h, hn, h2, e1, e2]
    · have h2 : ¬ n + k ≤ i := by omega
      simp [h, hn, h2]
  · simp [h]

/-- Bit m of x, as the walk writes '(x >> m) & 1'. -/
theorem bit_and (x m : Nat) (hx : x < 2 ^ 64) : bits .and .u64 ((x / 2 ^ m : Nat) : Int) 1 = ((x.testBit m).toNat : Int) := by
  have h := bits_and_u64_nat (x / 2 ^ m) 1 (Nat.lt_of_le_of_lt (Nat.div_le_self _ _) (by omega)) (by decide)
  rw [show ((1 : Nat) : Int) = 1 from rfl] at h
  rw [h]
  congr 1
  rw [Nat.and_one_is_mod, Nat.testBit_eq_decide_div_mod_eq]
  rcases Nat.mod_two_eq_zero_or_one (x / 2 ^ m) with e | e <;> simp [e]

theorem bit_or (p q : Bool) : bits .or .u64 (p.toNat : Int) (q.toNat : Int) = (((p || q).toNat : Nat) : Int) := by
  cases p <;> cases q <;> decide

theorem bit_and' (x m : Nat) (hx : x < 2 ^ 64) : bits .and .u64 ((x : Int) / 2 ^ m) 1 = ((x.testBit m).toNat : Int) := by
  rw [show ((x : Int) / 2 ^ m) = ((x / 2 ^ m : Nat) : Int) from by simp]
  exact bit_and x m hx

/-- Bit m of what add makes, inside the field. -/
theorem place_in (a n v wd m : Nat) (ha : a < 2 ^ 64) (hv : v < 2 ^ 64) (hm : m < 64) (h1 : n ≤ m) (h2 : m - n < wd) :
    (bits .and .u64 ((addN a n v wd : Nat) / 2 ^ m : Int) 1 != bits .or .u64 (bits .and .u64 ((a : Int) / 2 ^ m) 1) (bits .and .u64 ((v : Int) / 2 ^ (m - n)) 1)) = false := by
  rw [bit_and' _ m (addN_lt a n v wd ha), bit_and' a m ha, bit_and' v (m - n) hv, bit_or, addN_bit]
  simp [hm, h1, h2]

/-- Bit m of what add makes, outside the field. -/
theorem place_out (a n v wd m : Nat) (ha : a < 2 ^ 64) (h : ¬ (n ≤ m ∧ m - n < wd)) :
    (bits .and .u64 ((addN a n v wd : Nat) / 2 ^ m : Int) 1 != bits .and .u64 ((a : Int) / 2 ^ m) 1) = false := by
  rw [bit_and' _ m (addN_lt a n v wd ha), bit_and' a m ha, addN_bit]
  by_cases h1 : n ≤ m
  · have h2 : ¬ m - n < wd := fun h2 => h ⟨h1, h2⟩
    simp [h2]
  · simp [h1]

/-- What add makes, in the walk's own form. -/
theorem raw_eq (a n v wd : Nat) (ha : a < 2 ^ 64) (hv : v < 2 ^ 64) :
    bits .or .u64 (a : Int) (IntKind.u64.wrap (bits .and .u64 (v : Int) (IntKind.u64.wrap (IntKind.u64.wrap (2 ^ min wd 64) - 1)) * 2 ^ min n 64)) = ((addN a n v wd : Nat) : Int) := by
  have hm : IntKind.u64.wrap (IntKind.u64.wrap (2 ^ min wd 64) - 1) = ((2 ^ min wd 64 - 1 : Nat) : Int) := by
    rw [IntKind.wrap_u64, IntKind.wrap_u64]
    have hp : 0 < 2 ^ min wd 64 := Nat.pow_pos (by decide)
    have hle : 2 ^ min wd 64 ≤ 2 ^ 64 := Nat.pow_le_pow_right (by decide) (by omega)
    have hc : ((2 : Int) ^ min wd 64) = ((2 ^ min wd 64 : Nat) : Int) := by simp
    rw [hc]
    omega
  have hp : 0 < 2 ^ min wd 64 := Nat.pow_pos (by decide)
  have hle : 2 ^ min wd 64 ≤ 2 ^ 64 := Nat.pow_le_pow_right (by decide) (by omega)
  rw [hm, bits_and_u64_nat v _ (by omega) (by omega)]
  have hc : ((2 : Int) ^ min n 64) = ((2 ^ min n 64 : Nat) : Int) := by simp
  have hs : IntKind.u64.wrap (((v &&& (2 ^ min wd 64 - 1) : Nat) : Int) * 2 ^ min n 64) = (((v &&& (2 ^ min wd 64 - 1)) * 2 ^ min n 64 % 2 ^ 64 : Nat) : Int) := by
    rw [IntKind.wrap_u64, hc, ← Int.natCast_mul]
    omega
  rw [hs]
  exact bits_or_u64_nat a _ (by omega) (by omega)

end Go.Proofs.Qxb6616977aMods.bits
