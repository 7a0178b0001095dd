/-
  The plain laws under FnBitStreamAddFieldsReadBack: fields laid one behind the other read back. Numbers alone, no Go text in sight.
-/
import Derived.Test.Qxb6616977aModsBitLaws
namespace Go.Proofs.Qxb6616977aMods.bits

/-- Where field k begins. -/
def tot (n : Nat) (f : Nat → Nat) : Nat → Nat
  | 0 => n
  | k + 1 => tot n f k + f k

/-- The stream behind the first k fields. -/
def accN (a n : Nat) (v f : Nat → Nat) : Nat → Nat
  | 0 => a
  | k + 1 => addN (accN a n v f k) (tot n f k) (v k) (f k)

/-- zzLow -/
def lowI (x wd : Int) : Int := x % 2 ^ min wd.toNat 64

theorem tot_succ (n : Nat) (f : Nat → Nat) (k : Nat) : tot n f (k + 1) = tot n f k + f k := rfl
theorem accN_succ (a n : Nat) (v f : Nat → Nat) (k : Nat) : accN a n v f (k + 1) = addN (accN a n v f k) (tot n f k) (v k) (f k) := rfl

theorem tot_mono (n : Nat) (f : Nat → Nat) {j k : Nat} (h : j ≤ k) : tot n f j ≤ tot n f k := by
  induction k with
  | zero => have : j = 0 := by omega
            subst this; exact Nat.le_refl _
  | succ k ih =>
    by_cases e : j = k + 1
    · subst e; exact Nat.le_refl _
    · have := ih (by omega)
      rw [tot_succ]; omega

theorem addN_arith (a n v wd : Nat) (ha : a < 2 ^ n) (h : n + wd ≤ 64) : addN a n v wd = 2 ^ n * (v % 2 ^ wd) + a := by
  unfold addN
  rw [show min wd 64 = wd by omega, show min n 64 = n by omega, Nat.and_two_pow_sub_one_eq_mod]
  have hlt : v % 2 ^ wd * 2 ^ n < 2 ^ 64 := by
    have h1 : v % 2 ^ wd < 2 ^ wd := Nat.mod_lt _ (Nat.pow_pos (by decide))
    have h2 : v % 2 ^ wd * 2 ^ n < 2 ^ wd * 2 ^ n := Nat.mul_lt_mul_of_pos_right h1 (Nat.pow_pos (by decide))
    rw [← Nat.pow_add] at h2
    exact Nat.lt_of_lt_of_le h2 (Nat.pow_le_pow_right (by decide) (by omega))
  rw [Nat.mod_eq_of_lt hlt, Nat.or_comm, Nat.mul_comm, ← Nat.two_pow_add_eq_or_of_lt ha]

theorem accN_lt (a n : Nat) (v f : Nat → Nat) (ha : a < 2 ^ n) (k : Nat) (h : tot n f k ≤ 64) : accN a n v f k < 2 ^ tot n f k := by
  induction k with
  | zero => exact ha
  | succ k ih =>
    rw [tot_succ] at h ⊢
    have ihk := ih (by omega)
    rw [accN_succ, addN_arith _ _ _ _ ihk (by omega), Nat.pow_add]
    have h1 : v k % 2 ^ f k < 2 ^ f k := Nat.mod_lt _ (Nat.pow_pos (by decide))
    have h2 : 2 ^ tot n f k * (v k % 2 ^ f k + 1) ≤ 2 ^ tot n f k * 2 ^ f k := Nat.mul_le_mul_left _ h1
    rw [Nat.mul_add, Nat.mul_one] at h2
    omega

theorem accN_mod (a n : Nat) (v f : Nat → Nat) (ha : a < 2 ^ n) (j k : Nat) (hjk : j ≤ k) (h : tot n f k ≤ 64) : accN a n v f k % 2 ^ tot n f j = accN a n v f j := by
  induction k with
  | zero =>
    have e : j = 0 := by omega
    subst e
    exact Nat.mod_eq_of_lt ha
  | succ k ih =>
    by_cases e : j = k + 1
    · subst e
      exact Nat.mod_eq_of_lt (accN_lt a n v f ha _ h)
    · rw [tot_succ] at h
      have hk := accN_lt a n v f ha k (by omega)
      have hm : tot n f j ≤ tot n f k := tot_mono n f (by omega)
      rw [accN_succ, addN_arith _ _ _ _ hk (by omega), ← ih (by omega) (by omega)]
      obtain ⟨d, hd⟩ : ∃ d, tot n f k = tot n f j + d := ⟨tot n f k - tot n f j, by omega⟩
      rw [hd, Nat.pow_add, Nat.mul_assoc, Nat.add_comm, Nat.add_mul_mod_self_left]

/-- Field k reads back. -/
theorem field_back (a n : Nat) (v f : Nat → Nat) (ha : a < 2 ^ n) (k N : Nat) (hk : k < N) (h : tot n f N ≤ 64) :
    lowI ((accN a n v f N : Int) / 2 ^ tot n f k) (f k) = lowI (v k) (f k) := by
  have hm : tot n f (k + 1) ≤ tot n f N := tot_mono n f (by omega)
  rw [tot_succ] at hm
  have hlt := accN_lt a n v f ha k (by omega)
  have h1 := accN_mod a n v f ha (k + 1) N (by omega) h
  rw [accN_succ, addN_arith _ _ _ _ hlt (by omega), tot_succ, Nat.pow_add] at h1
  have h2 : accN a n v f N / 2 ^ tot n f k % 2 ^ f k = v k % 2 ^ f k := by
    rw [← Nat.mod_mul_right_div_self, h1, Nat.mul_add_div (Nat.pow_pos (by decide)), Nat.div_eq_of_lt hlt, Nat.add_zero]
  unfold lowI
  rw [show min ((f k : Int)).toNat 64 = f k by simp; omega]
  have h3 : ((accN a n v f N / 2 ^ tot n f k % 2 ^ f k : Nat) : Int) = ((v k % 2 ^ f k : Nat) : Int) := by rw [h2]
  simpa using h3

/-- What the stream held below stays. -/
theorem low_back (a n : Nat) (v f : Nat → Nat) (ha : a < 2 ^ n) (N : Nat) (h : tot n f N ≤ 64) : lowI (accN a n v f N) n = a := by
  have h1 := accN_mod a n v f ha 0 N (by omega) h
  have hn : n ≤ tot n f N := tot_mono n f (j := 0) (by omega)
  unfold lowI
  rw [show min ((n : Int)).toNat 64 = n by simp; omega]
  have h2 : ((accN a n v f N % 2 ^ n : Nat) : Int) = (a : Int) := by exact congrArg _ h1
  simpa using h2

/-- Nothing lies past the last field. -/
theorem past_zero (a n : Nat) (v f : Nat → Nat) (ha : a < 2 ^ n) (N : Nat) (h : tot n f N ≤ 64) : ((accN a n v f N : Int) / 2 ^ tot n f N) = 0 := by
  have h1 : accN a n v f N / 2 ^ tot n f N = 0 := Nat.div_eq_of_lt (accN_lt a n v f ha N h)
  have h2 : ((accN a n v f N / 2 ^ tot n f N : Nat) : Int) = 0 := by rw [h1]; rfl
  simpa using h2

theorem accN_bound (a n : Nat) (v f : Nat → Nat) (ha : a < 2 ^ n) (k : Nat) (h : tot n f k ≤ 64) : accN a n v f k < 2 ^ 64 :=
  Nat.lt_of_lt_of_le (accN_lt a n v f ha k h) (Nat.pow_le_pow_right (by decide) h)

end Go.Proofs.Qxb6616977aMods.bits
