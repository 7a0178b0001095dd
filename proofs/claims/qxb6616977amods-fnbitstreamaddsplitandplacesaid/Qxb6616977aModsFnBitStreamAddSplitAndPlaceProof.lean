/-
  A proof of 'Rows.FnBitStreamAddSplitAndPlaceSaid'. The frame is the kit's shell for this function; the plain law and the walk are typed by the prover of this seat.
-/
import Derived.Test.Qxb6616977aModsRows
import Derived.WalkKit
import Derived.ProofKit
import Derived.OpenShut
import Derived.ShutString
import Derived.Test.Qxb6616977aModsBitLaws
import Derived.Test.Qxb6616977aModsBitParts
namespace Go.Proofs.Qxb6616977aMods.fnBitStreamAddSplitAndPlace
open Go.ChangeShapes Go.WideShapes Go.ChangeAt Go.RowKit
open Go.ChangeMaps (open_string shut_string)
open Go.Proofs.Qxb6616977aMods.bits (addN addN_bit addN_lt addN_split place_in place_out zz_any grown_trans)
set_option linter.unusedVariables false      -- a walk need not use every 'w<i>' (that an integer argument fits its kind)

theorem own : ownKnob Trym.prog.godebug = none := by kernel_rfl

/-! ### STEP 1: THE WALK: the Go text returns true. 'Grown w w'': the world has at most new blocks (Derived/RowKit3.lean). Part the cases AHEAD of 'go_enter' where a test parts the walk; take each callee by a contract of your own. -/
theorem cast_shr (v k : Nat) : ((v : Int) / 2 ^ min k 64) = ((v / 2 ^ min k 64 : Nat) : Int) := by simp

/-- The second half of a split field. -/
theorem zz_split (a n v wd k : Nat) (w : World) (ha : a < 2 ^ 64) (hn : n ≤ 65536) (hv : v < 2 ^ 64) (hw : wd ≤ 255) (hk : k ≤ wd) :
    Calls Trym.prog 5 #[.int .u64 (addN a n v k), .int .u64 ((n : Int) + k), .int .u64 ((v : Int) / 2 ^ min k 64), .int .u8 ((wd : Int) - k)] w fun e w' =>
      e = .returned (.tuple #[.int .u64 (addN a n v wd), .int .u64 ((n : Int) + wd)]) ∧ Grown w w' := by
  refine (zz_any (addN a n v k) (n + k) (v / 2 ^ min k 64) (wd - k) _ _ _ _ _ rfl (by omega) (cast_shr v k) (by omega) (addN_lt _ _ _ _ ha) (by omega)
    (Nat.lt_of_le_of_lt (Nat.div_le_self _ _) hv) (by omega)).mono ?_
  rintro e w' ⟨rfl, hg, -⟩
  rw [addN_split a n v wd k hk, show ((n + k : Nat) : Int) + ((wd - k : Nat) : Int) = (n : Int) + wd from by omega]
  exact ⟨rfl, hg⟩

set_option maxRecDepth 100000 in
set_option maxHeartbeats 400000 in
theorem walk_main (a n v wd k : Nat) (w : World) (ha : a < 2 ^ 64) (hn : n ≤ 65536) (hv : v < 2 ^ 64) (hw : wd ≤ 255) (hk : k ≤ wd) :
    Calls Trym.prog 3 #[.int .u64 a, .int .u64 n, .int .u64 v, .int .u8 wd, .int .u8 k] w fun e w' => e = .returned (.bool true) ∧ Grown w w' := by
  have hsp : Hid (addN (addN a n v k) (n + k) (v / 2 ^ min k 64) (wd - k) = addN a n v wd) := addN_split a n v wd k hk
  have hlt := addN_lt a n v wd ha
  have hlk := addN_lt a n v k ha
  go_enter Trym.func3, Trym.ntmps3
  go_wp2_with fail
  refine (zz_any a n v wd _ _ _ _ _ (by rfl) (by rfl) (by rfl) (by rfl) ha (by omega) hv hw).mono ?_
  rintro e w1 ⟨rfl, hg1, -⟩
  go_wp2_with fail
  refine (zz_any a n v k _ _ _ _ _ (by rfl) (by rfl) (by rfl) (by rfl) ha (by omega) hv (by omega)).mono ?_
  rintro e w2 ⟨rfl, hg2, -⟩
  go_wp2_with fail
  refine (zz_split a n v wd k _ ha hn hv hw hk).mono ?_
  rintro e w3 ⟨rfl, hg3⟩
  have hg := grown_trans hg1 (grown_trans hg2 hg3)
  clear hg1 hg2 hg3 hsp
  go_wp2
  go_loop [17] (fun i => ∃ m : Nat, m ≤ 64 ∧ i = .int .u64 m) (fun i => 64 - (intOf i).toNat)
  case atStart => exact ⟨0, by omega, rfl⟩
  case round =>
    obtain ⟨m, hm, rfl⟩ := hrel
    by_cases hlt : m < 64
    · by_cases h1 : n ≤ m
      · by_cases h2 : m - n < wd
        · have hne := place_in a n v wd m ha hv hlt h1 h2
          go_wp2
          go_round
          case rel => exact ⟨m + 1, by omega, by go_num⟩
          case measure => simp [intOf]; omega
        · have hne := place_out a n v wd m ha (fun h => h2 h.2)
          go_wp2
          go_round
          case rel => exact ⟨m + 1, by omega, by go_num⟩
          case measure => simp [intOf]; omega
      · have hne := place_out a n v wd m ha (fun h => h1 h.1)
        go_wp2
        go_round
        case rel => exact ⟨m + 1, by omega, by go_num⟩
        case measure => simp [intOf]; omega
    · go_wp2
      go_ret
      exact ⟨rfl, hg⟩

theorem walk (a0 : Int) (a1 : Int) (a2 : Int) (a3 : Int) (a4 : Int) (w0 : (Lit.int .u64 a0).wf = true) (w1 : (Lit.int .u64 a1).wf = true) (w2 : (Lit.int .u64 a2).wf = true) (w3 : (Lit.int .u8 a3).wf = true) (w4 : (Lit.int .u8 a4).wf = true) (w : World) :
    Calls Trym.prog 3 #[.int .u64 a0, .int .u64 a1, .int .u64 a2, .int .u8 a3, .int .u8 a4] w fun e w' => e = .returned (.bool true) ∧ Grown w w' := by
  obtain ⟨l0, b0⟩ := bounds_u64 w0
  obtain ⟨l1, b1⟩ := bounds_u64 w1
  obtain ⟨l2, b2⟩ := bounds_u64 w2
  obtain ⟨l3, b3⟩ := bounds_u8 w3
  obtain ⟨l4, b4⟩ := bounds_u8 w4
  clear w0 w1 w2 w3 w4
  by_cases c1 : 65536 < a1
  · clear b0 b1 b2
    go_enter Trym.func3, Trym.ntmps3
    go_wp2
    go_ret
    exact ⟨rfl, Grown.refl _⟩
  · by_cases c2 : a3 < a4
    · clear b0 b1 b2
      go_enter Trym.func3, Trym.ntmps3
      go_wp2
      go_ret
      exact ⟨rfl, Grown.refl _⟩
    · obtain ⟨a, rfl⟩ := Int.eq_ofNat_of_zero_le l0
      obtain ⟨n, rfl⟩ := Int.eq_ofNat_of_zero_le l1
      obtain ⟨v, rfl⟩ := Int.eq_ofNat_of_zero_le l2
      obtain ⟨wd, rfl⟩ := Int.eq_ofNat_of_zero_le l3
      obtain ⟨k, rfl⟩ := Int.eq_ofNat_of_zero_le l4
      exact walk_main a n v wd k w (by omega) (by omega) (by omega) (by omega) (by omega)

/-! ### THE ROW's STEP: WRITTEN OUT: LEAVE IT -/
set_option maxRecDepth 100000 in
theorem lifted (os : Os) (started : os.Started) (H : Type) (enc : TypeId × Value → H) :
    ReturnsInHanded {} Trym.checked os 3 .any (Rows.fnBitStreamAddSplitAndPlaceSpec.pre6 enc Trym.prog Trym.f3 Rows.fnBitStreamAddSplitAndPlaceRow.domain false) (Rows.fnBitStreamAddSplitAndPlaceSpec.post enc Trym.prog Trym.f3 false true false false) := by
  refine returnsInHanded_of_change (C := Trym.checked) own started (by kernel_rfl) Trym.func3
    (ChangeSpec.witness6 (enc := enc) (C := Trym.checked) false ⟨#[], #[.int .u64 0, .int .u64 0, .int .u64 0, .int .u8 0, .int .u8 0], []⟩ 8 (by kernel_rfl) (by kernel_rfl) (by kernel_rfl) (by kernel_rfl)) ?_
  intro W base args ds gs before hval0 hW hcnd _
  have hval : ∀ (j : Nat) t v, Trym.f3.params[j]? = some t → args[j]? = some v → Value.okWide Trym.prog W .any base t v := hval0
  have hW' := hW
  obtain ⟨p, q, hA0, hV, rfl, hfz, hnd⟩ := hW
  have hA : DataW.TrodAll enc Trym.prog W 0 (fun _ => true) true Trym.f3.params.toList args.toList ds p := hA0
  rw [Trym.params3] at hA hval
  obtain ⟨v0, vs0, d0, ds0, p0, q0, hargs, rfl, rfl, h0, r0⟩ := trodAll_cons hA
  obtain ⟨v1, vs1, d1, ds1, p1, q1, rfl, rfl, rfl, h1, r1⟩ := trodAll_cons r0
  obtain ⟨v2, vs2, d2, ds2, p2, q2, rfl, rfl, rfl, h2, r2⟩ := trodAll_cons r1
  obtain ⟨v3, vs3, d3, ds3, p3, q3, rfl, rfl, rfl, h3, r3⟩ := trodAll_cons r2
  obtain ⟨v4, vs4, d4, ds4, p4, q4, rfl, rfl, rfl, h4, r4⟩ := trodAll_cons r3
  obtain ⟨rfl, rfl, rfl⟩ := trodAll_nil r4
  obtain rfl : args = #[v0, v1, v2, v3, v4] := by cases args; simp_all
  obtain ⟨rfl, rfl⟩ := trodVars_none hV
  obtain ⟨a0, rfl, rfl, rfl, w0⟩ := open_int Trym.underlying22 (hval 0 22 v0 rfl rfl) h0
  obtain ⟨a1, rfl, rfl, rfl, w1⟩ := open_int Trym.underlying23 (hval 1 23 v1 rfl rfl) h1
  obtain ⟨a2, rfl, rfl, rfl, w2⟩ := open_int Trym.underlying22 (hval 2 22 v2 rfl rfl) h2
  obtain ⟨a3, rfl, rfl, rfl, w3⟩ := open_int Trym.underlying5 (hval 3 5 v3 rfl rfl) h3
  obtain ⟨a4, rfl, rfl, rfl, w4⟩ := open_int Trym.underlying5 (hval 4 5 v4 rfl rfl) h4
  clear hA0 hval0
  simp only [List.append_nil] at hW'
  refine (walk a0 a1 a2 a3 a4 w0 w1 w2 w3 w4 W).mono fun e W' ⟨he, hg⟩ => ?_
  subst he
  exact ⟨_, rfl, post_of_same (pa := []) (pv := []) hW' (fun _ _ _ => (trodAll_cons_mk (shut_bool Trym.underlying4 _) trodAll_mk0)) (fun sp _ => (trodAll_cons_mk (shut_int Trym.underlying22 w0) (trodAll_cons_mk (shut_int Trym.underlying23 w1) (trodAll_cons_mk (shut_int Trym.underlying22 w2) (trodAll_cons_mk (shut_int Trym.underlying5 w3) (trodAll_cons_mk (shut_int Trym.underlying5 w4) trodAll_mk0)))))) (fun _ _ => rfl) rfl
    (hg.frame _) hg.2.1 (ok_one (by kernel_rfl) rfl (okWide_bool_mk Trym.underlying4 _))⟩

theorem over : Rows.fnBitStreamAddSplitAndPlaceRow.holds Trym.pinned (OpenSpec.ofChange Rows.fnBitStreamAddSplitAndPlaceSpec) :=
  OpenClaim.holds_of_wide 3 Trym.f3 rfl rfl rfl rfl rfl rfl rfl ⟨rfl, rfl, rfl, rfl, rfl⟩ rfl rfl rfl rfl rfl (by kernel_rfl) Trym.func3 (by kernel_rfl)
    (of_decide_eq_true (by kernel_rfl)) (by unfold Func.isWrapper; first | (rw [if_pos (by decide +kernel)]; kernel_rfl) | (rw [if_neg (by decide +kernel)]; exact ⟨rfl, rfl⟩))
    (fun os started H enc _ => lifted os started H enc)

/-- ████ THE STATEMENT ████ -/
theorem proved : Rows.FnBitStreamAddSplitAndPlaceSaid :=
  over
end Go.Proofs.Qxb6616977aMods.fnBitStreamAddSplitAndPlace
