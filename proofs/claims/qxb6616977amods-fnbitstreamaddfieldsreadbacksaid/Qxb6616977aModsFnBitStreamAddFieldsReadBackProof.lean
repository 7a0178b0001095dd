/-
  A proof of 'Rows.FnBitStreamAddFieldsReadBackSaid'. The frame is the kit's shell for this function; the plain law and the walk are typed by the prover of this seat.
-/
import Derived.Test.Qxb6616977aModsRows
import Derived.WalkKit
import Derived.ProofKit
import Derived.OpenShut
import Derived.ShutString
import Derived.ChangeOld
import Derived.Below
import Derived.BigQuiet
import Derived.Deep.QuietTactic
import Derived.Deep.RegionWith
import Derived.Deep.CutRange
import Derived.Test.Qxb6616977aModsBitParts
import Derived.Test.Qxb6616977aModsFieldLaws
import Derived.Test.Qxb6616977aModsFieldParts
namespace Go.Proofs.Qxb6616977aMods.fnBitStreamAddFieldsReadBack
open Go.ChangeShapes Go.WideShapes Go.ChangeAt Go.RowKit
open Go.ChangeMaps (open_string shut_string)
open Go.Proofs.Qxb6616977aMods.bits
set_option linter.unusedVariables false

theorem own : ownKnob Trym.prog.godebug = none := by kernel_rfl
theorem laidOut : laidOutB Trym.prog = true := by kernel_rfl

/-- WHAT THE WALK IS TOLD OF A SLICE OF INTEGERS THAT CAME IN: it is nil; or it leads to a row of 'cap' cells, the numbers 'zs' (the first 'len' are its elements, the rest its spare room), each fitting its kind. -/
def IsRow (k : IntKind) (w : World) (a : Option Addr) (len cap : Nat) (zs : List Int) : Prop :=
  (a = none ∧ len = 0 ∧ cap = 0 ∧ zs = []) ∨
  ∃ x, a = some x ∧ len ≤ cap ∧ cap ≤ maxLen ∧ zs.length = cap ∧ (∀ i, i < zs.length → w.cell? (x.add i) = some (.int k (zs.getD i 0))) ∧ ∀ n ∈ zs, (Lit.int k n).wf = true


theorem below_drawn {B : Nat} {a w : World} (h : Below B a w) (n : Nat) : Below B a (w.drewN n) := h.trans ⟨rfl, rfl, rfl, Nat.le_refl _, fun _ _ => rfl⟩

theorem Rd.of_row {k : IntKind} {w : World} {a : Option Addr} {len cap : Nat} {zs : List Int} (h : IsRow k w a len cap zs) (hnn : ∀ n : Int, (Lit.int k n).wf = true → 0 ≤ n) :
    len ≤ 9223372036854775807 ∧ Rd k w a len (fun j => (zs.getD j 0).toNat) := by
  rcases h with ⟨rfl, rfl, rfl, rfl⟩ | ⟨x, rfl, hlc, hcm, hz, hc, hwf⟩
  · exact ⟨by omega, fun h => by omega⟩
  · unfold maxLen at hcm
    refine ⟨by omega, fun hN => ?_⟩
    obtain ⟨b, o, rfl, hc'⟩ := ints_at hc (by omega)
    refine ⟨b, o, rfl, fun j hj => ?_⟩
    rw [hc' j (by omega)]
    have hm : zs.getD j 0 ∈ zs := by
      rw [List.getD_eq_getElem?_getD, List.getElem?_eq_getElem (by omega)]
      exact List.getElem_mem _
    have h0 := hnn _ (hwf _ hm)
    rw [Int.toNat_of_nonneg h0]

theorem getD_bd {k : IntKind} {w : World} {a : Option Addr} {len cap : Nat} {zs : List Int} (h : IsRow k w a len cap zs) (B : Nat) (hB : ∀ n : Int, (Lit.int k n).wf = true → n ≤ B) (j : Nat) : (zs.getD j 0).toNat ≤ B := by
  by_cases hj : j < zs.length
  · have hm : zs.getD j 0 ∈ zs := by
      rw [List.getD_eq_getElem?_getD, List.getElem?_eq_getElem hj]
      exact List.getElem_mem _
    rcases h with ⟨_, _, _, rfl⟩ | ⟨x, _, _, _, _, _, hwf⟩
    · simp at hj
    · have := hB _ (hwf _ hm)
      omega
  · rw [List.getD_eq_getElem?_getD, List.getElem?_eq_none (by omega)]
    simp

set_option maxRecDepth 100000 in
set_option maxHeartbeats 800000 in
theorem walk_main (a n N : Nat) (p2 p3 : Option Addr) (c2 c3 : Nat) (v f : Nat → Nat) (w : World) (ha64 : a < 18446744073709551616) (hn : n ≤ 64) (hN : N ≤ 4096) (ha : Hid (a < 2 ^ n))
    (hv : ∀ j, v j < 18446744073709551616) (hf : ∀ j, f j ≤ 255) (r2 : Rd .u64 w p2 N v) (r3 : Rd .u8 w p3 N f) :
    Calls Trym.prog 4 #[.int .u64 a, .int .u64 n, .slice p2 N c2, .slice p3 N c3] w fun e w' => e = .returned (.bool true) ∧ Below w.heap.size w w' := by
  have hz : ((a : Int) / 2 ^ n) = 0 := by
    have h : ((a / 2 ^ n : Nat) : Int) = 0 := by rw [Nat.div_eq_of_lt ha.out]; rfl
    simpa using h
  go_enter Trym.func4, Trym.ntmps4
  go_wp2_with (go_at_call 6; refine (bytes_yes _ _ _ _ _ _ _ _ _ (by omega)).mono ?_; rintro e w' ⟨rfl, rfl⟩)
  go_loop [9, 10] (fun t i => ∃ k : Nat, k ≤ N ∧ tot n f k ≤ 64 ∧ t = .int .u64 (tot n f k) ∧ i = .int .i64 k) (fun _ i => N - (intOf i).toNat)
  case atStart => exact ⟨0, by omega, hn, rfl, rfl⟩
  case round =>
    obtain ⟨k, hk, ht, rfl, rfl⟩ := hrel
    have hfk := hf k
    by_cases hlt : k < N
    · obtain ⟨b3, o3, rfl, hc3⟩ := r3 (by omega)
      have hck := hc3 k hlt
      by_cases h6 : tot n f k + f k ≤ 64
      · go_wp2
        go_round
        case rel => exact ⟨k + 1, by omega, by rw [tot_succ]; exact h6, by rw [tot_succ]; go_num, by go_num⟩
        case measure => simp [intOf]; omega
      · go_wp2
        go_ret
        exact ⟨rfl, Below.refl _ _⟩
    · have e : N = k := by omega
      subst e
      clear hlt hfk hk
      go_wp2
      go_loopw [11, 12, 13] (fun x c i wr => ∃ k : Nat, k ≤ N ∧ x = .int .u64 (accN a n v f k) ∧ c = .int .u64 (tot n f k) ∧ i = .int .i64 k ∧ Below w.heap.size w wr) (fun _ _ i _ => N - (intOf i).toNat)
      case atStart => exact ⟨0, by omega, rfl, rfl, rfl, Below.refl _ _⟩
      case round =>
        obtain ⟨k, hk, rfl, rfl, rfl, hb⟩ := hrel
        have hfk := hf k
        have hvk := hv k
        have hmk : tot n f k ≤ tot n f N := tot_mono n f hk
        have hak : accN a n v f k < 2 ^ 64 := accN_bound a n v f ha.out k (by omega)
        by_cases hlt : k < N
        · obtain ⟨b3, o3, rfl, hc3⟩ := (r3.below hb) (by omega)
          obtain ⟨b2, o2, rfl, hc2⟩ := (r2.below hb) (by omega)
          have hck3 := hc3 k hlt
          have hck2 := hc2 k hlt
          clear hc3 hc2
          have hltI : (k : Int) < (N : Int) := by omega
          go_wp2
          go_region_with (go_at_call 5; refine (zz_any (accN a n v f k) (tot n f k) (v k) (f k) _ _ _ _ _ (by rfl) (by rfl) (by rfl) (by rfl) hak (by omega) (by omega) (by omega)).mono ?_; rintro e w' ⟨rfl, -, hb'⟩)
          all_goals
            have hbw := hb.drew.trans (hb'.mono hb.size)
            clear hb'
            go_wp2
            go_roundw
            case rel => exact ⟨k + 1, by omega, by rw [accN_succ], by rw [tot_succ]; go_num, by go_num, hbw⟩
            case measure => simp [intOf]; omega
        · have e : N = k := by omega
          subst e
          clear hlt hfk hvk hk
          have hlow := low_back a n v f ha.out N ht
          have hpast := past_zero a n v f ha.out N ht
          go_wp2_with (go_at_call 7; refine (low_any _ _ _ (by omega) (by omega) (by omega)).mono ?_; rintro e w' ⟨rfl, hww⟩; obtain rfl := hww.symm)
          rename World => wa
          clear hlow
          go_loopw [14, 15] (fun q i wr => ∃ k : Nat, k ≤ N ∧ q = .int .u64 (tot n f k) ∧ i = .int .i64 k ∧ Below w.heap.size w wr) (fun _ i _ => N - (intOf i).toNat)
          case atStart => exact ⟨0, by omega, rfl, rfl, hb⟩
          case round =>
            obtain ⟨k, hk, rfl, rfl, hb2⟩ := hrel
            have hfk := hf k
            have hvk := hv k
            have hmk2 : tot n f k ≤ tot n f N := tot_mono n f hk
            by_cases hlt : k < N
            · have hback := field_back a n v f ha.out k N hlt ht
              have hq0 : (0 : Int) ≤ (accN a n v f N : Int) / 2 ^ tot n f k := Int.ediv_nonneg (by omega) (Int.le_of_lt (Int.pow_pos (by decide)))
              have hq1 : (accN a n v f N : Int) / 2 ^ tot n f k < 2 ^ 64 := Int.lt_of_le_of_lt (Int.ediv_le_self _ (by omega)) (by omega)
              obtain ⟨b3, o3, rfl, hc3⟩ := (r3.below hb2) (by omega)
              obtain ⟨b2, o2, rfl, hc2⟩ := (r2.below hb2) (by omega)
              have hck3 := hc3 k hlt
              have hck2 := hc2 k hlt
              clear hc3 hc2
              have hltI : (k : Int) < (N : Int) := by omega
              have hv0 : (0 : Int) ≤ (v k : Int) := by omega
              have hv1 : (v k : Int) < 2 ^ 64 := by omega
              have hf0 : (0 : Int) ≤ (f k : Int) := by omega
              go_wp2
              go_quiet ((go_at_call 7; first | exact Calls.quiet_of_same (low_any _ _ _ hq0 hq1 hf0) | exact Calls.quiet_of_same (low_any _ _ _ hv0 hv1 hf0)))
              go_wp2
              go_roundw
              case rel => exact ⟨k + 1, by omega, by rw [tot_succ]; go_num, by go_num, below_drawn hb2 _⟩
              case measure => simp [intOf]; omega
            · have e : N = k := by omega
              subst e
              go_wp2
              go_ret
              exact ⟨rfl, hb2⟩

theorem shifted_out (a n : Nat) (h : ¬ a < 2 ^ n) : (((a : Int) / 2 ^ n) != 0) = true := by
  have h1 : a / 2 ^ n ≠ 0 := by
    rw [Nat.div_ne_zero_iff]
    exact ⟨Nat.ne_of_gt (Nat.pow_pos (by decide)), by omega⟩
  have e : ((a : Int) / 2 ^ n) = ((a / 2 ^ n : Nat) : Int) := by simp
  rw [e]
  simp only [bne_iff_ne]
  omega

set_option maxHeartbeats 400000 in
theorem walk (a0 : Int) (a1 : Int) (a2 : Option Addr) (len2 cap2 : Nat) (z2 : List Int) (a3 : Option Addr) (len3 cap3 : Nat) (z3 : List Int) (w : World) (w0 : (Lit.int .u64 a0).wf = true) (w1 : (Lit.int .u64 a1).wf = true) (w2 : IsRow .u64 w a2 len2 cap2 z2) (w3 : IsRow .u8 w a3 len3 cap3 z3) :
    Calls Trym.prog 4 #[.int .u64 a0, .int .u64 a1, .slice a2 len2 cap2, .slice a3 len3 cap3] w fun e w' => e = .returned (.bool true) ∧ Below w.heap.size w w' := by
  obtain ⟨l0, b0⟩ := bounds_u64 w0
  obtain ⟨l1, b1⟩ := bounds_u64 w1
  obtain ⟨m2, r2⟩ := Rd.of_row w2 (fun n h => (bounds_u64 h).1)
  obtain ⟨m3, r3⟩ := Rd.of_row w3 (fun n h => (bounds_u8 h).1)
  have hv := getD_bd w2 18446744073709551615 (fun n h => (bounds_u64 h).2)
  have hf := getD_bd w3 255 (fun n h => (bounds_u8 h).2)
  clear w0 w1 w2 w3
  obtain ⟨a, rfl⟩ := Int.eq_ofNat_of_zero_le l0
  obtain ⟨n, rfl⟩ := Int.eq_ofNat_of_zero_le l1
  by_cases hn : n ≤ 64
  · by_cases h2 : len2 ≤ 4096
    · by_cases h3 : len3 ≤ 4096
      · by_cases hne : len3 = len2
        · by_cases hz : a < 2 ^ n
          · subst hne
            exact walk_main a n len3 a2 a3 cap2 cap3 _ _ w (by omega) hn h2 hz (fun j => Nat.lt_succ_of_le (hv j)) hf r2 r3
          · have hz' := shifted_out a n hz
            clear r2 r3 hv hf b0 b1
            go_enter Trym.func4, Trym.ntmps4
            go_wp2_with (go_at_call 6; refine (bytes_yes _ _ _ _ _ _ _ _ _ (by omega)).mono ?_; rintro e w' ⟨rfl, rfl⟩)
            go_ret
            exact ⟨rfl, Below.refl _ _⟩
        · clear r2 r3 hv hf b0 b1
          go_enter Trym.func4, Trym.ntmps4
          go_wp2_with (go_at_call 6; refine (bytes_yes _ _ _ _ _ _ _ _ _ (by omega)).mono ?_; rintro e w' ⟨rfl, rfl⟩)
          go_ret
          exact ⟨rfl, Below.refl _ _⟩
      · clear r2 r3 hv hf b0 b1
        by_cases hb : len2 + len3 ≤ 1048576
        · go_enter Trym.func4, Trym.ntmps4
          go_wp2_with (go_at_call 6; refine (bytes_yes _ _ _ _ _ _ _ _ _ hb).mono ?_; rintro e w' ⟨rfl, rfl⟩)
          go_ret
          exact ⟨rfl, Below.refl _ _⟩
        · go_enter Trym.func4, Trym.ntmps4
          go_wp2_with (go_at_call 6; refine (bytes_no _ _ _ _ _ _ _ _ _ m2 m3 (by omega)).mono ?_; rintro e w' ⟨rfl, rfl⟩)
          go_ret
          exact ⟨rfl, Below.refl _ _⟩
    · clear r2 r3 hv hf b0 b1
      by_cases hb : len2 + len3 ≤ 1048576
      · go_enter Trym.func4, Trym.ntmps4
        go_wp2_with (go_at_call 6; refine (bytes_yes _ _ _ _ _ _ _ _ _ hb).mono ?_; rintro e w' ⟨rfl, rfl⟩)
        go_ret
        exact ⟨rfl, Below.refl _ _⟩
      · go_enter Trym.func4, Trym.ntmps4
        go_wp2_with (go_at_call 6; refine (bytes_no _ _ _ _ _ _ _ _ _ m2 m3 (by omega)).mono ?_; rintro e w' ⟨rfl, rfl⟩)
        go_ret
        exact ⟨rfl, Below.refl _ _⟩
  · clear r2 r3 hv hf b0 b1
    by_cases hb : len2 + len3 ≤ 1048576
    · by_cases h2 : len2 ≤ 4096
      · by_cases h3 : len3 ≤ 4096
        · go_enter Trym.func4, Trym.ntmps4
          go_wp2_with (go_at_call 6; refine (bytes_yes _ _ _ _ _ _ _ _ _ hb).mono ?_; rintro e w' ⟨rfl, rfl⟩)
          go_ret
          exact ⟨rfl, Below.refl _ _⟩
        · go_enter Trym.func4, Trym.ntmps4
          go_wp2_with (go_at_call 6; refine (bytes_yes _ _ _ _ _ _ _ _ _ hb).mono ?_; rintro e w' ⟨rfl, rfl⟩)
          go_ret
          exact ⟨rfl, Below.refl _ _⟩
      · go_enter Trym.func4, Trym.ntmps4
        go_wp2_with (go_at_call 6; refine (bytes_yes _ _ _ _ _ _ _ _ _ hb).mono ?_; rintro e w' ⟨rfl, rfl⟩)
        go_ret
        exact ⟨rfl, Below.refl _ _⟩
    · go_enter Trym.func4, Trym.ntmps4
      go_wp2_with (go_at_call 6; refine (bytes_no _ _ _ _ _ _ _ _ _ m2 m3 (by omega)).mono ?_; rintro e w' ⟨rfl, rfl⟩)
      go_ret
      exact ⟨rfl, Below.refl _ _⟩

/-! ### THE ROW's STEP: WRITTEN OUT: LEAVE IT -/
set_option maxRecDepth 100000 in
theorem lifted (os : Os) (started : os.Started) (H : Type) (enc : TypeId × Value → H) :
    ReturnsInHanded {} Trym.checked os 4 .any (Rows.fnBitStreamAddFieldsReadBackSpec.pre6 enc Trym.prog Trym.f4 Rows.fnBitStreamAddFieldsReadBackRow.domain false) (Rows.fnBitStreamAddFieldsReadBackSpec.post enc Trym.prog Trym.f4 false true false false) := by
  refine returnsInHanded_of_change (C := Trym.checked) own started (by kernel_rfl) Trym.func4
    (ChangeSpec.witness6 (enc := enc) (C := Trym.checked) false ⟨#[], #[.int .u64 0, .int .u64 0, .slice none 0 0, .slice none 0 0], []⟩ 8 (by kernel_rfl) (by kernel_rfl) (by kernel_rfl) (by kernel_rfl)) ?_
  intro W base args ds gs before hval0 hW hcnd _
  have hval : ∀ (j : Nat) t v, Trym.f4.params[j]? = some t → args[j]? = some v → Value.okWide Trym.prog W .any base t v := hval0
  have hW' := hW
  obtain ⟨p, q, hA0, hV, rfl, hfz, hnd⟩ := hW
  have hA : DataW.TrodAll enc Trym.prog W 0 (fun _ => true) true Trym.f4.params.toList args.toList ds p := hA0
  rw [Trym.params4] at hA hval
  obtain ⟨v0, vs0, d0, ds0, p0, q0, hargs, rfl, rfl, h0, r0⟩ := trodAll_cons hA
  obtain ⟨v1, vs1, d1, ds1, p1, q1, rfl, rfl, rfl, h1, r1⟩ := trodAll_cons r0
  obtain ⟨v2, vs2, d2, ds2, p2, q2, rfl, rfl, rfl, h2, r2⟩ := trodAll_cons r1
  obtain ⟨v3, vs3, d3, ds3, p3, q3, rfl, rfl, rfl, h3, r3⟩ := trodAll_cons r2
  obtain ⟨rfl, rfl, rfl⟩ := trodAll_nil r3
  obtain rfl : args = #[v0, v1, v2, v3] := by cases args; simp_all
  obtain ⟨rfl, rfl⟩ := trodVars_none hV
  obtain ⟨a0, rfl, rfl, rfl, w0⟩ := open_int Trym.underlying22 (hval 0 22 v0 rfl rfl) h0
  obtain ⟨a1, rfl, rfl, rfl, w1⟩ := open_int Trym.underlying23 (hval 1 23 v1 rfl rfl) h1
  obtain ⟨a2, len2, cap2, rfl⟩ := okWide_slice Trym.underlying27 (hval 2 27 v2 rfl rfl)
  have k2 := h2
  have lt2 : ∀ x ∈ p2, x.block < W.heap.size := by obtain ⟨m, hm⟩ := k2; exact DataW.trod_lt m _ _ _ hm
  obtain ⟨z2, w2⟩ : ∃ zs, IsRow .u64 W a2 len2 cap2 zs := by
    obtain ⟨fuel, hf⟩ := h2
    rcases open_ints Trym.underlying27 Trym.underlying22 (by kernel_rfl) hf with ⟨hcs, _⟩ | ⟨x, l, c, zs, hcs, _, hl, hm, hz, _, hcell, hwz⟩
    · simp [Value.cells] at hcs
      obtain ⟨rfl, rfl, rfl⟩ := hcs
      exact ⟨[], .inl ⟨rfl, rfl, rfl, rfl⟩⟩
    · simp [Value.cells] at hcs
      obtain ⟨rfl, rfl, rfl⟩ := hcs
      exact ⟨zs, .inr ⟨_, rfl, hl, hm, by simpa using hz, hcell, hwz⟩⟩
  obtain ⟨a3, len3, cap3, rfl⟩ := okWide_slice Trym.underlying28 (hval 3 28 v3 rfl rfl)
  have k3 := h3
  have lt3 : ∀ x ∈ p3, x.block < W.heap.size := by obtain ⟨m, hm⟩ := k3; exact DataW.trod_lt m _ _ _ hm
  obtain ⟨z3, w3⟩ : ∃ zs, IsRow .u8 W a3 len3 cap3 zs := by
    obtain ⟨fuel, hf⟩ := h3
    rcases open_ints Trym.underlying28 Trym.underlying5 (by kernel_rfl) hf with ⟨hcs, _⟩ | ⟨x, l, c, zs, hcs, _, hl, hm, hz, _, hcell, hwz⟩
    · simp [Value.cells] at hcs
      obtain ⟨rfl, rfl, rfl⟩ := hcs
      exact ⟨[], .inl ⟨rfl, rfl, rfl, rfl⟩⟩
    · simp [Value.cells] at hcs
      obtain ⟨rfl, rfl, rfl⟩ := hcs
      exact ⟨zs, .inr ⟨_, rfl, hl, hm, by simpa using hz, hcell, hwz⟩⟩
  clear hA0 hval0
  refine (walk a0 a1 a2 len2 cap2 z2 a3 len3 cap3 z3 W w0 w1 w2 w3).mono fun e W' ⟨he, bel⟩ => ?_
  subst he
  exact ⟨_, rfl, _, _, _, [], _, [], hW', trodAll_mk1 (shut_bool Trym.underlying4 _), (trodAll_cons_mk (shut_int Trym.underlying22 w0) (trodAll_cons_mk (shut_int Trym.underlying23 w1) (trodAll_cons_mk (Below.trod laidOut (by kernel_rfl) (of_decide_eq_true (by kernel_rfl)) k2 bel lt2) (trodAll_cons_mk (Below.trod laidOut (by kernel_rfl) (of_decide_eq_true (by kernel_rfl)) k3 bel lt3) trodAll_mk0)))), rfl, bel.frame _, fun h => by cases h⟩

theorem over : Rows.fnBitStreamAddFieldsReadBackRow.holds Trym.pinned (OpenSpec.ofChange Rows.fnBitStreamAddFieldsReadBackSpec) :=
  OpenClaim.holds_of_wide 4 Trym.f4 rfl rfl rfl rfl rfl rfl rfl ⟨rfl, rfl, rfl, rfl, rfl⟩ rfl rfl rfl rfl rfl (by kernel_rfl) Trym.func4 (by kernel_rfl)
    (of_decide_eq_true (by kernel_rfl)) (by unfold Func.isWrapper; first | (rw [if_pos (by decide +kernel)]; kernel_rfl) | (rw [if_neg (by decide +kernel)]; exact ⟨rfl, rfl⟩))
    (fun os started H enc _ => lifted os started H enc)

/-- ████ THE STATEMENT ████ -/
theorem proved : Rows.FnBitStreamAddFieldsReadBackSaid := over
end Go.Proofs.Qxb6616977aMods.fnBitStreamAddFieldsReadBack
