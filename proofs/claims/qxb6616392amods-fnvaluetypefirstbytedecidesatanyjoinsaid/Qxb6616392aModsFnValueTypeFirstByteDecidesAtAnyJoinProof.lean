/-
  A proof of 'Rows.FnValueTypeFirstByteDecidesAtAnyJoinSaid'. The frame is the kit's shell for this function; the plain law and the walk are typed by the prover of this seat.
-/
import Derived.Test.Qxb6616392aModsRows
import Derived.WalkKit
import Derived.ProofKit
import Derived.OpenShut
import Derived.ShutString
import Derived.ChangeOld
import Derived.Below
import Derived.WalkSpells
import Derived.Deep.CutRange
import Derived.Test.Qxb6616392aModsVtParts
import Derived.Test.Qxb6616392aModsVtLaws
namespace Go.Proofs.Qxb6616392aMods.fnValueTypeFirstByteDecidesAtAnyJoin
open Go.ChangeShapes Go.WideShapes Go.ChangeAt Go.RowKit
open Go.ChangeMaps (open_string shut_string)
set_option linter.unusedVariables false

theorem own : ownKnob Trym.prog.godebug = none := by kernel_rfl
theorem laidOut : laidOutB Trym.prog = true := by kernel_rfl

/-- WHAT THE WALK IS TOLD OF A SLICE OF INTEGERS THAT CAME IN: it is nil; or it leads to a row of 'cap' cells, the numbers 'zs' (the first 'len' are its elements, the rest its spare room), each fitting its kind. -/
def IsRow (k : IntKind) (w : World) (a : Option Addr) (len cap : Nat) (zs : List Int) : Prop :=
  (a = none ∧ len = 0 ∧ cap = 0 ∧ zs = []) ∨
  ∃ x, a = some x ∧ len ≤ cap ∧ cap ≤ maxLen ∧ zs.length = cap ∧ (∀ i, i < zs.length → w.cell? (x.add i) = some (.int k (zs.getD i 0))) ∧ ∀ n ∈ zs, (Lit.int k n).wf = true


theorem Trym.info5 : (Trym.prog.info? 5).map (fun i => (i.zero, i.size, i.bytes)) = some (some (.int .u8 0), 1, 1) := by kernel_rfl
theorem Trym.size5 : (Trym.prog.info? 5).map (·.size) = some 1 := by kernel_rfl

set_option maxRecDepth 100000 in
set_option maxHeartbeats 400000 in
theorem walk_main (a0 : Option Addr) (len0 cap0 : Nat) (A : List Int) (a1 : Option Addr) (len1 cap1 : Nat) (C : List Int) (w : World)
    (hA : Src w a0 len0 cap0 A) (hC : Src w a1 len1 cap1 C) (l0 : len0 ≤ 65536) (l1 : len1 ≤ 65536) :
    Calls Trym.prog 3 #[.slice a0 len0 cap0, .slice a1 len1 cap1] w fun e w' => e = .returned (.bool true) ∧ Below w.heap.size w w' := by
  have hnn := fun (w : World) (a : Option Addr) (n c : Nat) => run_neq_slice_nil_any (P := Trym.prog) w 22 5 a n c 0 0 Trym.underlying22
  obtain ⟨i0, hi, hz0, hz1, hz2⟩ := info_parts Trym.info5
  go_enter Trym.func3, Trym.ntmps3
  go_upto_if 27 with (go_at_call 6; refine (bytes_yes _ _ _ _ _ _ _ (by omega)).mono ?_; rintro e w' ⟨rfl, rfl⟩)
  go_cut [0] from 14 (fun v wr => ∃ p c, v = .slice p len0 c ∧ Src wr p len0 c A ∧ Below w.heap.size w wr)
  case first =>
    cases a0 with
    | none =>
      go_wp2
      go_meet
      case rel => exact ⟨_, _, rfl, hA, Below.refl _ _⟩
    | some ad =>
      go_wp2_with (at_make; refine wpList_make_full _ rfl _ _ 22 rfl w.heap.size 5 i0 (.int .u8 0) 1 Trym.underlying22 hi hz0 hz1 _ _ _ _ len0 rfl rfl (by omega) (by omega) ?b2 ?b3 ?b4 ?_)
      case b2 => rw [hz2]; omega
      case b3 => unfold maxLen; omega
      case b4 => exact Nat.le_refl _
      intro w1 hown hgrow
      obtain ⟨cur, hcur, hblk⟩ := made_block hown
      have hb1 : Below w.heap.size w w1 := (Below.refl _ _).grown hgrow (Nat.le_refl _) (fun k h => by simp at h)
      have hA1 := hA.below hb1
      clear hown hgrow
      go_wp2_with (with_reducible refine wpList_copy_splice rfl _ _ 22 22 rfl 5 Trym.underlying22 Trym.size5 _ _ _ _ _ _ rfl rfl w.heap.size 0 cur 5 hblk (X A) ?cn ?cpos ?cfit (X_one A) w.heap.size w hb1 (Nat.le_refl _) ?_)
      case cn => rw [X_length, hA.1]; simp
      case cpos => exact fun _ => hA1.2.2 ad rfl
      case cfit => rw [X_length, hA.1]; omega
      intro w2 hblk2 hb2
      clear hblk hb1 hA1
      go_wp2
      go_meet
      case rel => exact ⟨_, _, rfl, Src.made hA.1 hcur hblk2.out, hb2⟩
  case rest =>
    obtain ⟨p0, c0, rfl, hA0, hb0⟩ := hcut
    rename World => w2
    have hC0 := hC.below hb0
    clear hA hC
    go_upto_if 36 with fail
    go_cut [1] from 14 (fun v wr => ∃ p c, v = .slice p len1 c ∧ Src wr p len1 c C ∧ Below w2.heap.size w2 wr)
    case first =>
      cases a1 with
      | none =>
        go_wp2
        go_meet
        case rel => exact ⟨_, _, rfl, hC0, Below.refl _ _⟩
      | some ad =>
        go_wp2_with (at_make; refine wpList_make_full _ rfl _ _ 22 rfl w2.heap.size 5 i0 (.int .u8 0) 1 Trym.underlying22 hi hz0 hz1 _ _ _ _ len1 rfl rfl (by omega) (by omega) ?b2' ?b3' ?b4' ?_)
        case b2' => rw [hz2]; omega
        case b3' => unfold maxLen; omega
        case b4' => exact Nat.le_refl _
        intro w3 hown hgrow
        obtain ⟨cur, hcur, hblk⟩ := made_block hown
        have hb1 : Below w2.heap.size w2 w3 := (Below.refl _ _).grown hgrow (Nat.le_refl _) (fun k h => by simp at h)
        have hC1 := hC0.below hb1
        clear hown hgrow
        go_wp2_with (with_reducible refine wpList_copy_splice rfl _ _ 22 22 rfl 5 Trym.underlying22 Trym.size5 _ _ _ _ _ _ rfl rfl w2.heap.size 0 cur 5 hblk (X C) ?cn' ?cpos' ?cfit' (X_one C) w2.heap.size w2 hb1 (Nat.le_refl _) ?_)
        case cn' => rw [X_length, hC0.1]; simp
        case cpos' => exact fun _ => hC1.2.2 ad rfl
        case cfit' => rw [X_length, hC0.1]; omega
        intro w4 hblk2 hb2
        clear hblk hb1 hC1
        go_wp2
        go_meet
        case rel => exact ⟨_, _, rfl, Src.made hC0.1 hcur hblk2.out, hb2⟩
    case rest =>
      obtain ⟨p1, c1, rfl, hC3, hb23⟩ := hcut
      rename World => w3
      have hA3 := hA0.below hb23
      have hb3 : Below w.heap.size w w3 := hb0.trans (hb23.mono hb0.size)
      clear hA0 hC0 hb23 hb0
      go_wp2_with (at_make; refine wpList_make_own _ rfl _ _ 22 rfl w3.heap.size 5 i0 (.int .u8 0) 1 Trym.underlying22 hi hz0 hz1 _ _ _ (len0 + len1) rfl rfl (by omega) ?d1 ?d2 ?d3 ?_)
      case d1 => rw [hz2]; omega
      case d2 => unfold maxLen; omega
      case d3 => exact Nat.le_refl _
      intro w4 hown4 hg4
      have hb4 : Below w3.heap.size w3 w4 := (Below.refl _ _).grown hg4 (Nat.le_refl _) (fun k h => by simp at h)
      have hA4 := hA3.below hb4
      clear hg4
      go_wp2_with (at_builtin; refine wpList_append_fits_any _ rfl _ _ 22 rfl w3.heap.size 5 i0 1 Trym.underlying22 hi hz1 w3.heap.size 0 (len0 + len1) [] rfl hown4 p0 len0 c0 (X A) rfl ?e1 ?e2 ?e3 (X_one A) ?e4 ?_)
      case e1 => rw [X_length, hA3.1]; omega
      case e2 => exact hA3.2.1
      case e3 => exact hA4.2.2
      case e4 => omega
      intro w5 hown5 hg5
      have hb5 : Below w3.heap.size w3 w5 := hb4.grown hg5 (by have := hb4.size; omega) (fun k h => by simp at h; omega)
      have hC5 := hC3.below hb5
      clear hg5 hown4 hA4
      go_wp2_with (at_builtin; refine wpList_append_fits_any _ rfl _ _ 22 rfl w3.heap.size 5 i0 1 Trym.underlying22 hi hz1 w3.heap.size len0 (len0 + len1) (X A) rfl hown5 p1 len1 c1 (X C) rfl ?f1 ?f2 ?f3 (X_one C) ?f4 ?_)
      case f1 => rw [X_length, hC3.1]; omega
      case f2 => exact hC3.2.1
      case f3 => exact hC5.2.2
      case f4 => omega
      intro w6 hown6 hg6
      have hb6 : Below w3.heap.size w3 w6 := hb5.grown hg6 (by have := hb5.size; omega) (fun k h => by simp at h; omega)
      have hA6 := hA3.below hb6
      have hC6 := hC3.below hb6
      have hbw : Below w.heap.size w w6 := hb3.trans (hb6.mono hb3.size)
      clear hg6 hown5 hC5 hA3 hC3 hb4 hb5 hb6
      by_cases z0 : 0 < len0
      · have hj := joined_head hown6 (by omega)
        rw [head_append hA6.1 z0] at hj
        obtain ⟨b0, o0, rfl, hc0⟩ := hA6.head z0
        obtain ⟨x0, hx0⟩ : ∃ x0, x0 = A.getD 0 0 := ⟨_, rfl⟩
        rw [← hx0] at hj hc0
        have ho0 := obj x0
        clear hx0 hA6 hown6
        by_cases z1 : 0 < len1
        · obtain ⟨b1, o1, rfl, hc1⟩ := hC6.head z1
          obtain ⟨x1, hx1⟩ : ∃ x1, x1 = C.getD 0 0 := ⟨_, rfl⟩
          rw [← hx1] at hc1
          have ho1 := obj x1
          clear hx1 hC6
          go_wp2_with fail
          refine (vt_of _ _ _ _ _ x0 z0 hc0).mono ?_
          rintro e w' ⟨rfl, rfl⟩
          go_wp2_with fail
          refine (vt_of _ _ _ _ _ x1 z1 hc1).mono ?_
          rintro e w' ⟨rfl, rfl⟩
          go_wp2_with fail
          refine (vt_of _ _ _ _ _ x0 (by omega) hj).mono ?_
          rintro e w' ⟨rfl, rfl⟩
          go_wp2_with (go_at_call 8; refine (name_of _ _).mono ?_; rintro e w' ⟨rfl, rfl⟩)
          go_ret
          exact ⟨rfl, hbw⟩
        · obtain rfl : len1 = 0 := by omega
          clear hC6
          have hon := obj_null
          go_wp2_with fail
          refine (vt_of _ _ _ _ _ x0 z0 hc0).mono ?_
          rintro e w' ⟨rfl, rfl⟩
          go_wp2_with fail
          refine (vt_null _ _ _).mono ?_
          rintro e w' ⟨rfl, rfl⟩
          go_wp2_with fail
          refine (vt_of _ _ _ _ _ x0 (by omega) hj).mono ?_
          rintro e w' ⟨rfl, rfl⟩
          go_wp2_with (go_at_call 8; refine (name_of _ _).mono ?_; rintro e w' ⟨rfl, rfl⟩)
          go_ret
          exact ⟨rfl, hbw⟩
      · obtain rfl : len0 = 0 := by omega
        have hon := obj_null
        by_cases z1 : 0 < len1
        · have hj := joined_head hown6 (by omega)
          rw [head_append_nil hA6.1] at hj
          obtain ⟨b1, o1, rfl, hc1⟩ := hC6.head z1
          obtain ⟨x1, hx1⟩ : ∃ x1, x1 = C.getD 0 0 := ⟨_, rfl⟩
          rw [← hx1] at hj hc1
          have ho1 := obj x1
          clear hx1 hC6 hA6 hown6
          go_wp2_with fail
          refine (vt_null _ _ _).mono ?_
          rintro e w' ⟨rfl, rfl⟩
          go_wp2_with fail
          refine (vt_of _ _ _ _ _ x1 z1 hc1).mono ?_
          rintro e w' ⟨rfl, rfl⟩
          go_wp2_with fail
          refine (vt_of _ _ _ _ _ x1 (by omega) hj).mono ?_
          rintro e w' ⟨rfl, rfl⟩
          go_wp2_with (go_at_call 8; refine (name_of _ _).mono ?_; rintro e w' ⟨rfl, rfl⟩)
          go_ret
          exact ⟨rfl, hbw⟩
        · obtain rfl : len1 = 0 := by omega
          clear hC6 hA6 hown6
          go_wp2_with fail
          refine (vt_null _ _ _).mono ?_
          rintro e w' ⟨rfl, rfl⟩
          go_wp2_with fail
          refine (vt_null _ _ _).mono ?_
          rintro e w' ⟨rfl, rfl⟩
          go_wp2_with fail
          refine (vt_null _ _ _).mono ?_
          rintro e w' ⟨rfl, rfl⟩
          go_wp2_with (go_at_call 8; refine (name_of _ _).mono ?_; rintro e w' ⟨rfl, rfl⟩)
          go_ret
          exact ⟨rfl, hbw⟩

theorem Src.of_row {w : World} {a : Option Addr} {len cap : Nat} {zs : List Int} (h : IsRow .u8 w a len cap zs) : len ≤ 9223372036854775807 ∧ Src w a len cap (zs.take len) := by
  rcases h with ⟨rfl, rfl, rfl, rfl⟩ | ⟨x, rfl, hlc, hcm, hz, hc, _⟩
  · exact ⟨by omega, rfl, fun _ => ⟨rfl, rfl⟩, fun ad h => by simp at h⟩
  · unfold maxLen at hcm
    refine ⟨by omega, by rw [List.length_take]; omega, fun h => by simp at h, fun ad h j u hu => ?_⟩
    obtain rfl := Option.some.inj h
    have hj : j < (X (zs.take len)).length := (List.getElem?_eq_some_iff.1 hu).1
    rw [X_length, List.length_take] at hj
    rw [hc j (by omega)]
    simp only [X, List.getElem?_map, List.getElem?_take] at hu
    rw [if_pos (by omega)] at hu
    rw [List.getElem?_eq_getElem (by omega)] at hu
    simp only [Option.map_some] at hu
    rw [← hu]
    simp [List.getD, show j < zs.length by omega]

theorem walk (a0 : Option Addr) (len0 cap0 : Nat) (z0 : List Int) (a1 : Option Addr) (len1 cap1 : Nat) (z1 : List Int) (w : World) (w0 : IsRow .u8 w a0 len0 cap0 z0) (w1 : IsRow .u8 w a1 len1 cap1 z1) :
    Calls Trym.prog 3 #[.slice a0 len0 cap0, .slice a1 len1 cap1] w fun e w' => e = .returned (.bool true) ∧ Below w.heap.size w w' := by
  obtain ⟨m0, s0⟩ := Src.of_row w0
  obtain ⟨m1, s1⟩ := Src.of_row w1
  clear w0 w1
  by_cases l0 : len0 ≤ 65536
  · by_cases l1 : len1 ≤ 65536
    · exact walk_main a0 len0 cap0 _ a1 len1 cap1 _ w s0 s1 l0 l1
    · clear s0 s1
      by_cases hb : len0 + len1 ≤ 1048576
      · go_enter Trym.func3, Trym.ntmps3
        go_wp2_with (go_at_call 6; refine (bytes_yes _ _ _ _ _ _ _ hb).mono ?_; rintro e w' ⟨rfl, rfl⟩)
        go_ret
        exact ⟨rfl, Below.refl _ _⟩
      · go_enter Trym.func3, Trym.ntmps3
        go_wp2_with (go_at_call 6; refine (bytes_no _ _ _ _ _ _ _ m0 m1 (by omega)).mono ?_; rintro e w' ⟨rfl, rfl⟩)
        go_ret
        exact ⟨rfl, Below.refl _ _⟩
  · clear s0 s1
    by_cases hb : len0 + len1 ≤ 1048576
    · go_enter Trym.func3, Trym.ntmps3
      go_wp2_with (go_at_call 6; refine (bytes_yes _ _ _ _ _ _ _ hb).mono ?_; rintro e w' ⟨rfl, rfl⟩)
      go_ret
      exact ⟨rfl, Below.refl _ _⟩
    · go_enter Trym.func3, Trym.ntmps3
      go_wp2_with (go_at_call 6; refine (bytes_no _ _ _ _ _ _ _ m0 m1 (by omega)).mono ?_; rintro e w' ⟨rfl, rfl⟩)
      go_ret
      exact ⟨rfl, Below.refl _ _⟩

/-! ### THE ROW's STEP: WRITTEN OUT: LEAVE IT -/
set_option maxRecDepth 100000 in
theorem lifted (os : Os) (started : os.Started) (H : Type) (enc : TypeId × Value → H) :
    ReturnsInHanded {} Trym.checked os 3 .any (Rows.fnValueTypeFirstByteDecidesAtAnyJoinSpec.pre6 enc Trym.prog Trym.f3 Rows.fnValueTypeFirstByteDecidesAtAnyJoinRow.domain false) (Rows.fnValueTypeFirstByteDecidesAtAnyJoinSpec.post enc Trym.prog Trym.f3 false true false false) := by
  refine returnsInHanded_of_change (C := Trym.checked) own started (by kernel_rfl) Trym.func3
    (ChangeSpec.witness6 (enc := enc) (C := Trym.checked) false ⟨#[], #[.slice none 0 0, .slice none 0 0], []⟩ 8 (by kernel_rfl) (by kernel_rfl) (by kernel_rfl) (by kernel_rfl)) ?_
  intro W base args ds gs before hval0 hW hcnd _
  have hval : ∀ (j : Nat) t v, Trym.f3.params[j]? = some t → args[j]? = some v → Value.okWide Trym.prog W .any base t v := hval0
  have hW' := hW
  obtain ⟨p, q, hA0, hV, rfl, hfz, hnd⟩ := hW
  have hA : DataW.TrodAll enc Trym.prog W 0 (fun _ => true) true Trym.f3.params.toList args.toList ds p := hA0
  rw [Trym.params3] at hA hval
  obtain ⟨v0, vs0, d0, ds0, p0, q0, hargs, rfl, rfl, h0, r0⟩ := trodAll_cons hA
  obtain ⟨v1, vs1, d1, ds1, p1, q1, rfl, rfl, rfl, h1, r1⟩ := trodAll_cons r0
  obtain ⟨rfl, rfl, rfl⟩ := trodAll_nil r1
  obtain rfl : args = #[v0, v1] := by cases args; simp_all
  obtain ⟨rfl, rfl⟩ := trodVars_none hV
  obtain ⟨a0, len0, cap0, rfl⟩ := okWide_slice Trym.underlying22 (hval 0 22 v0 rfl rfl)
  have k0 := h0
  have lt0 : ∀ x ∈ p0, x.block < W.heap.size := by obtain ⟨m, hm⟩ := k0; exact DataW.trod_lt m _ _ _ hm
  obtain ⟨z0, w0⟩ : ∃ zs, IsRow .u8 W a0 len0 cap0 zs := by
    obtain ⟨fuel, hf⟩ := h0
    rcases open_ints Trym.underlying22 Trym.underlying5 (by kernel_rfl) hf with ⟨hcs, _⟩ | ⟨x, l, c, zs, hcs, _, hl, hm, hz, _, hcell, hwz⟩
    · simp [Value.cells] at hcs
      obtain ⟨rfl, rfl, rfl⟩ := hcs
      exact ⟨[], .inl ⟨rfl, rfl, rfl, rfl⟩⟩
    · simp [Value.cells] at hcs
      obtain ⟨rfl, rfl, rfl⟩ := hcs
      exact ⟨zs, .inr ⟨_, rfl, hl, hm, by simpa using hz, hcell, hwz⟩⟩
  obtain ⟨a1, len1, cap1, rfl⟩ := okWide_slice Trym.underlying22 (hval 1 22 v1 rfl rfl)
  have k1 := h1
  have lt1 : ∀ x ∈ p1, x.block < W.heap.size := by obtain ⟨m, hm⟩ := k1; exact DataW.trod_lt m _ _ _ hm
  obtain ⟨z1, w1⟩ : ∃ zs, IsRow .u8 W a1 len1 cap1 zs := by
    obtain ⟨fuel, hf⟩ := h1
    rcases open_ints Trym.underlying22 Trym.underlying5 (by kernel_rfl) hf with ⟨hcs, _⟩ | ⟨x, l, c, zs, hcs, _, hl, hm, hz, _, hcell, hwz⟩
    · simp [Value.cells] at hcs
      obtain ⟨rfl, rfl, rfl⟩ := hcs
      exact ⟨[], .inl ⟨rfl, rfl, rfl, rfl⟩⟩
    · simp [Value.cells] at hcs
      obtain ⟨rfl, rfl, rfl⟩ := hcs
      exact ⟨zs, .inr ⟨_, rfl, hl, hm, by simpa using hz, hcell, hwz⟩⟩
  clear hA0 hval0
  refine (walk a0 len0 cap0 z0 a1 len1 cap1 z1 W w0 w1).mono fun e W' ⟨he, bel⟩ => ?_
  subst he
  exact ⟨_, rfl, _, _, _, [], _, [], hW', trodAll_mk1 (shut_bool Trym.underlying4 _), (trodAll_cons_mk (Below.trod laidOut (by kernel_rfl) (of_decide_eq_true (by kernel_rfl)) k0 bel lt0) (trodAll_cons_mk (Below.trod laidOut (by kernel_rfl) (of_decide_eq_true (by kernel_rfl)) k1 bel lt1) trodAll_mk0)), rfl, bel.frame _, fun h => by cases h⟩

theorem over : Rows.fnValueTypeFirstByteDecidesAtAnyJoinRow.holds Trym.pinned (OpenSpec.ofChange Rows.fnValueTypeFirstByteDecidesAtAnyJoinSpec) :=
  OpenClaim.holds_of_wide 3 Trym.f3 rfl rfl rfl rfl rfl rfl rfl ⟨rfl, rfl, rfl, rfl, rfl⟩ rfl rfl rfl rfl rfl (by kernel_rfl) Trym.func3 (by kernel_rfl)
    (of_decide_eq_true (by kernel_rfl)) (by unfold Func.isWrapper; first | (rw [if_pos (by decide +kernel)]; kernel_rfl) | (rw [if_neg (by decide +kernel)]; exact ⟨rfl, rfl⟩))
    (fun os started H enc _ => lifted os started H enc)

/-- ████ THE STATEMENT ████ -/
theorem proved : Rows.FnValueTypeFirstByteDecidesAtAnyJoinSaid := over
end Go.Proofs.Qxb6616392aMods.fnValueTypeFirstByteDecidesAtAnyJoin
