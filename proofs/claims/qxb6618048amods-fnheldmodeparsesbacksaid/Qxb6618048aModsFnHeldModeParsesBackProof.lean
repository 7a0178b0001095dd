/-
  A proof of 'Rows.FnHeldModeParsesBackSaid'. The frame is the kit's shell for this function; the plain law and the walk are typed by the prover of this seat.
-/
import Derived.Test.Qxb6618048aModsRows
import Derived.WalkKit
import Derived.ProofKit
import Derived.OpenShut
import Derived.ShutString
import Derived.Laws.IdiomStrings
namespace Go.Proofs.Qxb6618048aMods.fnHeldModeParsesBack
open Go.ChangeShapes Go.WideShapes Go.ChangeAt Go.RowKit
open Go.ChangeMaps (open_string shut_string)
set_option linter.unusedVariables false      -- a walk need not use every 'w<i>' (that an integer argument fits its kind)

theorem own : ownKnob Trym.prog.godebug = none := by kernel_rfl

/-! ### STEP 1: THE WALK: the Go text returns true. 'Grown w w'': the world has at most new blocks (Derived/RowKit3.lean). Part the cases AHEAD of 'go_enter' where a test parts the walk; take each callee by a contract of your own. -/
theorem held_any (undo : Bool) (n : Int) (ex past : Bool) (w : World) :
    Calls Trym.prog 4 #[.bool undo, .int .u32 n, .bool ex, .bool past] w fun e w' => e = .returned (.int .u8 (if past then 78 else if ex then 88 else 83)) ∧ ∃ c, w.alloc (.cells c 33) = w' := by
  cases past
  · cases ex
    · go_enter Trym.func4, Trym.ntmps4
      go_wp2
      go_ret
      exact ⟨rfl, _, rfl⟩
    · go_enter Trym.func4, Trym.ntmps4
      go_wp2
      go_ret
      exact ⟨rfl, _, rfl⟩
  · go_enter Trym.func4, Trym.ntmps4
    go_wp2
    go_ret
    exact ⟨rfl, _, rfl⟩

theorem parse_of (c : UInt8) (w : World) (h : c = 78 ∨ c = 88 ∨ c = 83) :
    Calls Trym.prog 5 #[.string { data := #[c] }] w fun e w' => e = .returned (.tuple #[.int .u8 (c.toNat : Int), .bool true]) ∧ w = w' := by
  rcases h with rfl | rfl | rfl
  · go_enter Trym.func5, Trym.ntmps5
    go_wp2
    go_ret2
    exact ⟨rfl, rfl⟩
  · go_enter Trym.func5, Trym.ntmps5
    go_wp2
    go_ret2
    exact ⟨rfl, rfl⟩
  · go_enter Trym.func5, Trym.ntmps5
    go_wp2
    go_ret2
    exact ⟨rfl, rfl⟩

/-- 'string([]byte{byte(m)})' behind the two new blocks of the calls. -/
theorem conv_one (w : World) (n : Int) (x : UInt8) (hx : (x.toNat : Int) = n) (c d : Array Value) :
    (convert 25 9 (.slice (some ⟨w.heap.size + 1 + 1, 0, none⟩) 1 1)).run Trym.prog (((w.alloc (.cells c 33)).alloc (.cells d 33)).alloc (.cells #[.int .u8 n] 5)) =
      .ok (.string { data := #[x] }) (((w.alloc (.cells c 33)).alloc (.cells d 33)).alloc (.cells #[.int .u8 n] 5)) := by
  subst hx
  refine run_convert_bytes_back (P := Trym.prog) _ 25 9 5 ⟨w.heap.size + 1 + 1, 0, none⟩ 1 [x] Trym.underlying25 Trym.underlying5 Trym.underlying9 ?_
  intro j hj
  have hj0 : j = 0 := by simp at hj; omega
  subst hj0
  have h := World.cell?_alloc_mark ((w.alloc (.cells c 33)).alloc (.cells d 33)) #[.int .u8 (x.toNat : Int)] 5 (0, 0) 0
  have hsz : ((w.alloc (.cells c 33)).alloc (.cells d 33)).heap.size = w.heap.size + 1 + 1 := by simp
  rw [hsz] at h
  simpa [Addr.add] using h

theorem walk (a0 : Bool) (a1 : Int) (a2 : Bool) (a3 : Int) (a4 : Bool) (a5 : Bool) (w1 : (Lit.int .u32 a1).wf = true) (w3 : (Lit.int .u32 a3).wf = true) (w : World) :
    Calls Trym.prog 3 #[.bool a0, .int .u32 a1, .bool a2, .int .u32 a3, .bool a4, .bool a5] w fun e w' => e = .returned (.bool true) ∧ Grown w w' := by
  clear w1 w3
  cases a5
  · cases a4
    · have hcv := conv_one w 83 83 rfl
      go_enter Trym.func3, Trym.ntmps3
      go_wp2_with (first | (go_at_call 4; refine (held_any _ _ _ _ _).mono ?_; rintro e w' ⟨rfl, c, rfl⟩) | (go_at_call 5; refine (parse_of 83 _ (by decide)).mono ?_; rintro e w' ⟨rfl, rfl⟩))
      go_ret
      exact ⟨rfl, (((Grown.refl _).alloc _ _).alloc _ _).alloc _ _⟩
    · have hcv := conv_one w 88 88 rfl
      go_enter Trym.func3, Trym.ntmps3
      go_wp2_with (first | (go_at_call 4; refine (held_any _ _ _ _ _).mono ?_; rintro e w' ⟨rfl, c, rfl⟩) | (go_at_call 5; refine (parse_of 88 _ (by decide)).mono ?_; rintro e w' ⟨rfl, rfl⟩))
      go_ret
      exact ⟨rfl, (((Grown.refl _).alloc _ _).alloc _ _).alloc _ _⟩
  · have hcv := conv_one w 78 78 rfl
    go_enter Trym.func3, Trym.ntmps3
    go_wp2_with (first | (go_at_call 4; refine (held_any _ _ _ _ _).mono ?_; rintro e w' ⟨rfl, c, rfl⟩) | (go_at_call 5; refine (parse_of 78 _ (by decide)).mono ?_; rintro e w' ⟨rfl, rfl⟩))
    go_ret
    exact ⟨rfl, (((Grown.refl _).alloc _ _).alloc _ _).alloc _ _⟩

/-! ### THE ROW's STEP: WRITTEN OUT: LEAVE IT -/
set_option maxRecDepth 100000 in
theorem lifted (os : Os) (started : os.Started) (H : Type) (enc : TypeId × Value → H) :
    ReturnsInHanded {} Trym.checked os 3 .any (Rows.fnHeldModeParsesBackSpec.pre6 enc Trym.prog Trym.f3 Rows.fnHeldModeParsesBackRow.domain false) (Rows.fnHeldModeParsesBackSpec.post enc Trym.prog Trym.f3 false true false false) := by
  refine returnsInHanded_of_change (C := Trym.checked) own started (by kernel_rfl) Trym.func3
    (ChangeSpec.witness6 (enc := enc) (C := Trym.checked) false ⟨#[], #[.bool false, .int .u32 0, .bool false, .int .u32 0, .bool false, .bool false], []⟩ 8 (by kernel_rfl) (by kernel_rfl) (by kernel_rfl) (by kernel_rfl)) ?_
  intro W base args ds gs before hval0 hW hcnd _
  have hval : ∀ (j : Nat) t v, Trym.f3.params[j]? = some t → args[j]? = some v → Value.okWide Trym.prog W .any base t v := hval0
  have hW' := hW
  obtain ⟨p, q, hA0, hV, rfl, hfz, hnd⟩ := hW
  have hA : DataW.TrodAll enc Trym.prog W 0 (fun _ => true) true Trym.f3.params.toList args.toList ds p := hA0
  rw [Trym.params3] at hA hval
  obtain ⟨v0, vs0, d0, ds0, p0, q0, hargs, rfl, rfl, h0, r0⟩ := trodAll_cons hA
  obtain ⟨v1, vs1, d1, ds1, p1, q1, rfl, rfl, rfl, h1, r1⟩ := trodAll_cons r0
  obtain ⟨v2, vs2, d2, ds2, p2, q2, rfl, rfl, rfl, h2, r2⟩ := trodAll_cons r1
  obtain ⟨v3, vs3, d3, ds3, p3, q3, rfl, rfl, rfl, h3, r3⟩ := trodAll_cons r2
  obtain ⟨v4, vs4, d4, ds4, p4, q4, rfl, rfl, rfl, h4, r4⟩ := trodAll_cons r3
  obtain ⟨v5, vs5, d5, ds5, p5, q5, rfl, rfl, rfl, h5, r5⟩ := trodAll_cons r4
  obtain ⟨rfl, rfl, rfl⟩ := trodAll_nil r5
  obtain rfl : args = #[v0, v1, v2, v3, v4, v5] := by cases args; simp_all
  obtain ⟨rfl, rfl⟩ := trodVars_none hV
  obtain ⟨a0, rfl, rfl, rfl⟩ := open_bool Trym.underlying4 (hval 0 4 v0 rfl rfl) h0
  obtain ⟨a1, rfl, rfl, rfl, w1⟩ := open_int Trym.underlying22 (hval 1 22 v1 rfl rfl) h1
  obtain ⟨a2, rfl, rfl, rfl⟩ := open_bool Trym.underlying4 (hval 2 4 v2 rfl rfl) h2
  obtain ⟨a3, rfl, rfl, rfl, w3⟩ := open_int Trym.underlying22 (hval 3 22 v3 rfl rfl) h3
  obtain ⟨a4, rfl, rfl, rfl⟩ := open_bool Trym.underlying4 (hval 4 4 v4 rfl rfl) h4
  obtain ⟨a5, rfl, rfl, rfl⟩ := open_bool Trym.underlying4 (hval 5 4 v5 rfl rfl) h5
  clear hA0 hval0
  simp only [List.append_nil] at hW'
  refine (walk a0 a1 a2 a3 a4 a5 w1 w3 W).mono fun e W' ⟨he, hg⟩ => ?_
  subst he
  exact ⟨_, rfl, post_of_same (pa := []) (pv := []) hW' (fun _ _ _ => (trodAll_cons_mk (shut_bool Trym.underlying4 _) trodAll_mk0)) (fun sp _ => (trodAll_cons_mk (shut_bool Trym.underlying4 _) (trodAll_cons_mk (shut_int Trym.underlying22 w1) (trodAll_cons_mk (shut_bool Trym.underlying4 _) (trodAll_cons_mk (shut_int Trym.underlying22 w3) (trodAll_cons_mk (shut_bool Trym.underlying4 _) (trodAll_cons_mk (shut_bool Trym.underlying4 _) trodAll_mk0))))))) (fun _ _ => rfl) rfl
    (hg.frame _) hg.2.1 (ok_one (by kernel_rfl) rfl (okWide_bool_mk Trym.underlying4 _))⟩

theorem over : Rows.fnHeldModeParsesBackRow.holds Trym.pinned (OpenSpec.ofChange Rows.fnHeldModeParsesBackSpec) :=
  OpenClaim.holds_of_wide 3 Trym.f3 rfl rfl rfl rfl rfl rfl rfl ⟨rfl, rfl, rfl, rfl, rfl⟩ rfl rfl rfl rfl rfl (by kernel_rfl) Trym.func3 (by kernel_rfl)
    (of_decide_eq_true (by kernel_rfl)) (by unfold Func.isWrapper; first | (rw [if_pos (by decide +kernel)]; kernel_rfl) | (rw [if_neg (by decide +kernel)]; exact ⟨rfl, rfl⟩))
    (fun os started H enc _ => lifted os started H enc)

/-- ████ THE STATEMENT ████ -/
theorem proved : Rows.FnHeldModeParsesBackSaid :=
  over
end Go.Proofs.Qxb6618048aMods.fnHeldModeParsesBack
