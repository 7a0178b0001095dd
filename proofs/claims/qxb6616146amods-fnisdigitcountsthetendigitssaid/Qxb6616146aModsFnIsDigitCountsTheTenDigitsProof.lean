/-
  A proof of 'Rows.FnIsDigitCountsTheTenDigitsSaid'. The frame is the kit's shell for this function; the plain law and the walk are typed by the prover of this seat.
-/
import Derived.Test.Qxb6616146aModsRows
import Derived.WalkKit
import Derived.ProofKit
import Derived.OpenShut
import Derived.ShutString
namespace Go.Proofs.Qxb6616146aMods.fnIsDigitCountsTheTenDigits
open Go.ChangeShapes Go.WideShapes Go.ChangeAt Go.RowKit
open Go.ChangeMaps (open_string shut_string)
set_option linter.unusedVariables false      -- a walk need not use every 'w<i>' (that an integer argument fits its kind)

theorem own : ownKnob Trym.prog.godebug = none := by kernel_rfl

/-! ### STEP 1: THE WALK: the Go text returns true. 'Grown w w'': the world has at most new blocks (Derived/RowKit3.lean). Part the cases AHEAD of 'go_enter' where a test parts the walk; take each callee by a contract of your own. -/
/-- THE PLAIN FUNCTION: how many of the numbers below k are digits. -/
def cnt (k : Nat) : Int := if k ≤ 48 then 0 else if k ≤ 58 then (k : Int) - 48 else 10

theorem cnt_low (k : Nat) (h : k < 48) : cnt (k + 1) = cnt k := by
  unfold cnt; rw [if_pos (by omega), if_pos (by omega)]
theorem cnt_mid (k : Nat) (h1 : 48 ≤ k) (h2 : k ≤ 57) : cnt (k + 1) = cnt k + 1 := by
  unfold cnt; repeat' split
  all_goals omega
theorem cnt_high (k : Nat) (h : 57 < k) : cnt (k + 1) = cnt k := by
  unfold cnt; repeat' split
  all_goals omega
theorem cnt_bd (k : Nat) : 0 ≤ cnt k ∧ cnt k ≤ 10 := by
  unfold cnt; repeat' split
  all_goals omega

theorem ret_bool {a b : Bool} (h : a = b) : Ending.returned (.bool a) = .returned (.bool b) := by rw [h]

theorem dig_yes (n : Int) (w : World) (h1 : 48 ≤ n) (h2 : n ≤ 57) :
    Calls Trym.prog 4 #[.int .u8 n] w fun e w' => e = .returned (.bool true) ∧ w' = w := by
  go_enter Trym.func4, Trym.ntmps4
  go_wp2
  go_ret
  exact ⟨rfl, rfl⟩

theorem dig_low (n : Int) (w : World) (h1 : n < 48) :
    Calls Trym.prog 4 #[.int .u8 n] w fun e w' => e = .returned (.bool false) ∧ w' = w := by
  have h2 : ¬ 48 ≤ n := by omega
  go_enter Trym.func4, Trym.ntmps4
  go_wp2
  go_ret
  exact ⟨rfl, rfl⟩

theorem dig_high (n : Int) (w : World) (h1 : 57 < n) :
    Calls Trym.prog 4 #[.int .u8 n] w fun e w' => e = .returned (.bool false) ∧ w' = w := by
  have h2 : 48 ≤ n := by omega
  have h3 : ¬ n ≤ 57 := by omega
  go_enter Trym.func4, Trym.ntmps4
  go_wp2
  go_ret
  exact ⟨rfl, rfl⟩

theorem walk (a0 : Int) (w0 : (Lit.int .u8 a0).wf = true) (w : World) :
    Calls Trym.prog 3 #[.int .u8 a0] w fun e w' => e = .returned (.bool true) ∧ Grown w w' := by
  obtain ⟨lo, hi⟩ := bounds_u8 w0
  go_enter Trym.func3, Trym.ntmps3
  go_wp2
  go_loop [3, 4] (fun n i => ∃ k : Nat, (k : Int) ≤ a0 + 1 ∧ i = .int .i64 k ∧ n = .int .i64 (cnt k)) (fun _ i => (a0 + 1 - intOf i).toNat)
  case atStart => exact ⟨0, by omega, rfl, rfl⟩
  case round =>
    obtain ⟨k, hk, rfl, rfl⟩ := hrel
    have hb := cnt_bd k
    by_cases hlt : (k : Int) ≤ a0
    · by_cases h1 : (k : Int) < 48
      · have HS : Hid (cnt (k + 1) = cnt k) := cnt_low k (by omega)
        go_wp2_with (go_at_call 4; refine (dig_low _ _ h1).mono ?_; rintro e w' ⟨rfl, rfl⟩)
        go_round
        case rel => exact ⟨k + 1, by omega, by go_num, by rw [HS.out]⟩
        case measure => simp [intOf]; omega
      · by_cases h2 : 57 < (k : Int)
        · have HS : Hid (cnt (k + 1) = cnt k) := cnt_high k (by omega)
          go_wp2_with (go_at_call 4; refine (dig_high _ _ h2).mono ?_; rintro e w' ⟨rfl, rfl⟩)
          go_round
          case rel => exact ⟨k + 1, by omega, by go_num, by rw [HS.out]⟩
          case measure => simp [intOf]; omega
        · have HS : Hid (cnt (k + 1) = cnt k + 1) := cnt_mid k (by omega) (by omega)
          go_wp2_with (go_at_call 4; refine (dig_yes _ _ (by omega) (by omega)).mono ?_; rintro e w' ⟨rfl, rfl⟩)
          go_round
          case rel => exact ⟨k + 1, by omega, by go_num, by rw [HS.out]⟩
          case measure => simp [intOf]; omega
    · have hka : (k : Int) = a0 + 1 := by omega
      by_cases h1 : a0 < 47
      · have e : (cnt k == 0) = true := by unfold cnt; rw [if_pos (by omega)]; rfl
        clear hka
        go_wp2
        go_ret
        exact ⟨rfl, Grown.refl _⟩
      · by_cases h2 : 57 < a0
        · have e : (cnt k == 10) = true := by unfold cnt; rw [if_neg (by omega), if_neg (by omega)]; rfl
          clear hka
          go_wp2
          go_ret
          exact ⟨rfl, Grown.refl _⟩
        · have e : Hid (cnt k = a0 - 48 + 1) := by
            show cnt k = _
            unfold cnt; repeat' split
            all_goals omega
          clear hka
          go_wp2
          go_ret
          exact ⟨ret_bool (by rw [e.out]; simp), Grown.refl _⟩

/-! ### THE ROW's STEP: WRITTEN OUT: LEAVE IT -/
set_option maxRecDepth 100000 in
theorem lifted (os : Os) (started : os.Started) (H : Type) (enc : TypeId × Value → H) :
    ReturnsInHanded {} Trym.checked os 3 .any (Rows.fnIsDigitCountsTheTenDigitsSpec.pre6 enc Trym.prog Trym.f3 Rows.fnIsDigitCountsTheTenDigitsRow.domain false) (Rows.fnIsDigitCountsTheTenDigitsSpec.post enc Trym.prog Trym.f3 false true false false) := by
  refine returnsInHanded_of_change (C := Trym.checked) own started (by kernel_rfl) Trym.func3
    (ChangeSpec.witness6 (enc := enc) (C := Trym.checked) false ⟨#[], #[.int .u8 0], []⟩ 8 (by kernel_rfl) (by kernel_rfl) (by kernel_rfl) (by kernel_rfl)) ?_
  intro W base args ds gs before hval0 hW hcnd _
  have hval : ∀ (j : Nat) t v, Trym.f3.params[j]? = some t → args[j]? = some v → Value.okWide Trym.prog W .any base t v := hval0
  have hW' := hW
  obtain ⟨p, q, hA0, hV, rfl, hfz, hnd⟩ := hW
  have hA : DataW.TrodAll enc Trym.prog W 0 (fun _ => true) true Trym.f3.params.toList args.toList ds p := hA0
  rw [Trym.params3] at hA hval
  obtain ⟨v0, vs0, d0, ds0, p0, q0, hargs, rfl, rfl, h0, r0⟩ := trodAll_cons hA
  obtain ⟨rfl, rfl, rfl⟩ := trodAll_nil r0
  obtain rfl : args = #[v0] := by cases args; simp_all
  obtain ⟨rfl, rfl⟩ := trodVars_none hV
  obtain ⟨a0, rfl, rfl, rfl, w0⟩ := open_int Trym.underlying5 (hval 0 5 v0 rfl rfl) h0
  clear hA0 hval0
  simp only [List.append_nil] at hW'
  refine (walk a0 w0 W).mono fun e W' ⟨he, hg⟩ => ?_
  subst he
  exact ⟨_, rfl, post_of_same (pa := []) (pv := []) hW' (fun _ _ _ => (trodAll_cons_mk (shut_bool Trym.underlying4 _) trodAll_mk0)) (fun sp _ => (trodAll_cons_mk (shut_int Trym.underlying5 w0) trodAll_mk0)) (fun _ _ => rfl) rfl
    (hg.frame _) hg.2.1 (ok_one (by kernel_rfl) rfl (okWide_bool_mk Trym.underlying4 _))⟩

theorem over : Rows.fnIsDigitCountsTheTenDigitsRow.holds Trym.pinned (OpenSpec.ofChange Rows.fnIsDigitCountsTheTenDigitsSpec) :=
  OpenClaim.holds_of_wide 3 Trym.f3 rfl rfl rfl rfl rfl rfl rfl ⟨rfl, rfl, rfl, rfl, rfl⟩ rfl rfl rfl rfl rfl (by kernel_rfl) Trym.func3 (by kernel_rfl)
    (of_decide_eq_true (by kernel_rfl)) (by unfold Func.isWrapper; first | (rw [if_pos (by decide +kernel)]; kernel_rfl) | (rw [if_neg (by decide +kernel)]; exact ⟨rfl, rfl⟩))
    (fun os started H enc _ => lifted os started H enc)

/-- ████ THE STATEMENT ████ -/
theorem proved : Rows.FnIsDigitCountsTheTenDigitsSaid :=
  over
end Go.Proofs.Qxb6616146aMods.fnIsDigitCountsTheTenDigits
