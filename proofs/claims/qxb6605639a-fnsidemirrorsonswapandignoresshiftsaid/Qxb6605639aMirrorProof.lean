/-
  THE LAW 'FnSideMirrorsOnSwapAndIgnoresShift', PROVED: the frame is the guide's shell, the walk lies in Qxb6605639aMirrorWalk.
-/
import Derived.Test.Qxb6605639aRows
import Derived.WalkKit
import Derived.ProofKit
import Derived.OpenShut
import Derived.ShutString
import Derived.Test.Qxb6605639aMirrorWalk
namespace Go.Proofs.Qxb6605639a.fnSideMirrorsOnSwapAndIgnoresShift
open Go.ChangeShapes Go.WideShapes Go.ChangeAt Go.RowKit
open Go.ChangeMaps (open_string shut_string)
set_option linter.unusedVariables false      -- a walk need not use every 'w<i>' (that an integer argument fits its kind)

theorem own : ownKnob Try.prog.godebug = none := by kernel_rfl

/-! ### STEP 1: THE WALK -/
set_option maxHeartbeats 1000000 in
theorem walk_out (n s a b : Int) (h : n < -1125899906842624 ∨ (-1125899906842624 ≤ n ∧ 1125899906842624 < n) ∨ (-1125899906842624 ≤ n ∧ n ≤ 1125899906842624 ∧
      (s < -1125899906842624 ∨ (-1125899906842624 ≤ s ∧ 1125899906842624 < s) ∨ (-1125899906842624 ≤ s ∧ s ≤ 1125899906842624 ∧
      (a < 0 ∨ (0 ≤ a ∧ 1125899906842624 < a) ∨ (0 ≤ a ∧ a ≤ 1125899906842624 ∧ (b < 0 ∨ (0 ≤ b ∧ 1125899906842624 < b)))))))) (w : World) :
    Calls Try.prog 4 #[.int .i64 n, .int .i64 s, .int .i64 a, .int .i64 b] w fun e w' => e = .returned (.bool true) ∧ Grown w w' := by
  rcases h with h | ⟨h1, h2⟩ | ⟨h1, h2, h | ⟨h3, h4⟩ | ⟨h3, h4, h | ⟨h5, h6⟩ | ⟨h5, h6, h | ⟨h7, h8⟩⟩⟩⟩
  all_goals
    go_enter Try.func4, Try.ntmps4
    go_wp2_with fail
    go_ret
    exact ⟨rfl, Grown.refl _⟩

theorem walk (a0 : Int) (a1 : Int) (a2 : Int) (a3 : Int) (w0 : (Lit.int .i64 a0).wf = true) (w1 : (Lit.int .i64 a1).wf = true) (w2 : (Lit.int .i64 a2).wf = true) (w3 : (Lit.int .i64 a3).wf = true) (w : World) :
    Calls Try.prog 4 #[.int .i64 a0, .int .i64 a1, .int .i64 a2, .int .i64 a3] w fun e w' => e = .returned (.bool true) ∧ Grown w w' := by
  by_cases h : -1125899906842624 ≤ a0 ∧ a0 ≤ 1125899906842624 ∧ -1125899906842624 ≤ a1 ∧ a1 ≤ 1125899906842624 ∧ 0 ≤ a2 ∧ a2 ≤ 1125899906842624 ∧ 0 ≤ a3 ∧ a3 ≤ 1125899906842624
  · obtain ⟨h1, h2, h3, h4, h5, h6, h7, h8⟩ := h
    obtain ⟨m1, m2, m3, m4⟩ := Fl.mirror_law a2 a3 h5 h6 h7 h8
    have hr := Fl.side_range (floatOfInt .f64 a3) (floatOfInt .f64 a2)
    have e1 : Fl.mirror 0 = 0 := rfl
    have e2 : Fl.mirror 1 = 2 := rfl
    have e3 : Fl.mirror 2 = 1 := rfl
    generalize hX : Fl.sideOf (floatOfInt .f64 a3) (floatOfInt .f64 a2) = X at *
    refine mirror_core a0 a1 a2 a3 h1 h2 h3 h4 h5 h6 h7 h8 X (Fl.mirror X)
      (hide (zside_at _ _ a2 (by omega) _ X hX (by omega) (by omega))) (hide (zside_at _ _ a3 (by omega) _ _ m1 (by omega) (by omega))) (hide (zside_at _ _ a2 (by omega) _ X hX (by omega) (by omega))) ?_ w
    clear m1 hX
    rcases hr with rfl | rfl | rfl
    · refine Or.inl ⟨rfl, e1, ?_⟩; omega
    · refine Or.inr (Or.inl ⟨rfl, e2, ?_⟩); omega
    · refine Or.inr (Or.inr ⟨rfl, e3, ?_⟩); omega
  · exact walk_out a0 a1 a2 a3 (by omega) w

/-! ### THE ROW's STEP: WRITTEN OUT: LEAVE IT -/
set_option maxRecDepth 100000 in
theorem lifted (os : Os) (started : os.Started) (H : Type) (enc : TypeId × Value → H) :
    ReturnsInHanded {} Try.checked os 4 .any (Rows.fnSideMirrorsOnSwapAndIgnoresShiftSpec.pre6 enc Try.prog Try.f4 Rows.fnSideMirrorsOnSwapAndIgnoresShiftRow.domain false) (Rows.fnSideMirrorsOnSwapAndIgnoresShiftSpec.post enc Try.prog Try.f4 false true false false) := by
  refine returnsInHanded_of_change (C := Try.checked) own started (by kernel_rfl) Try.func4
    (ChangeSpec.witness6 (enc := enc) (C := Try.checked) false ⟨#[], #[.int .i64 0, .int .i64 0, .int .i64 0, .int .i64 0], []⟩ 8 (by kernel_rfl) (by kernel_rfl) (by kernel_rfl) (by kernel_rfl)) ?_
  intro W base args ds gs before hval0 hW hcnd _
  have hval : ∀ (j : Nat) t v, Try.f4.params[j]? = some t → args[j]? = some v → Value.okWide Try.prog W .any base t v := hval0
  have hW' := hW
  obtain ⟨p, q, hA0, hV, rfl, hfz, hnd⟩ := hW
  have hA : DataW.TrodAll enc Try.prog W 0 (fun _ => true) true Try.f4.params.toList args.toList ds p := hA0
  rw [Try.params4] at hA hval
  obtain ⟨v0, vs0, d0, ds0, p0, q0, hargs, rfl, rfl, h0, r0⟩ := trodAll_cons hA
  obtain ⟨v1, vs1, d1, ds1, p1, q1, rfl, rfl, rfl, h1, r1⟩ := trodAll_cons r0
  obtain ⟨v2, vs2, d2, ds2, p2, q2, rfl, rfl, rfl, h2, r2⟩ := trodAll_cons r1
  obtain ⟨v3, vs3, d3, ds3, p3, q3, rfl, rfl, rfl, h3, r3⟩ := trodAll_cons r2
  obtain ⟨rfl, rfl, rfl⟩ := trodAll_nil r3
  obtain rfl : args = #[v0, v1, v2, v3] := by cases args; simp_all
  obtain ⟨rfl, rfl⟩ := trodVars_none hV
  obtain ⟨a0, rfl, rfl, rfl, w0⟩ := open_int Try.underlying2 (hval 0 2 v0 rfl rfl) h0
  obtain ⟨a1, rfl, rfl, rfl, w1⟩ := open_int Try.underlying2 (hval 1 2 v1 rfl rfl) h1
  obtain ⟨a2, rfl, rfl, rfl, w2⟩ := open_int Try.underlying2 (hval 2 2 v2 rfl rfl) h2
  obtain ⟨a3, rfl, rfl, rfl, w3⟩ := open_int Try.underlying2 (hval 3 2 v3 rfl rfl) h3
  clear hA0 hval0
  simp only [List.append_nil] at hW'
  refine (walk a0 a1 a2 a3 w0 w1 w2 w3 W).mono fun e W' ⟨he, hg⟩ => ?_
  subst he
  exact ⟨_, rfl, post_of_same (pa := []) (pv := []) hW' (fun _ _ _ => (trodAll_cons_mk (shut_bool Try.underlying4 _) trodAll_mk0)) (fun sp _ => (trodAll_cons_mk (shut_int Try.underlying2 w0) (trodAll_cons_mk (shut_int Try.underlying2 w1) (trodAll_cons_mk (shut_int Try.underlying2 w2) (trodAll_cons_mk (shut_int Try.underlying2 w3) trodAll_mk0))))) (fun _ _ => rfl) rfl
    (hg.frame _) hg.2.1 (ok_one (by kernel_rfl) rfl (okWide_bool_mk Try.underlying4 _))⟩

theorem over : Rows.fnSideMirrorsOnSwapAndIgnoresShiftRow.holds Try.pinned (OpenSpec.ofChange Rows.fnSideMirrorsOnSwapAndIgnoresShiftSpec) :=
  OpenClaim.holds_of_wide 4 Try.f4 rfl rfl rfl rfl rfl rfl rfl ⟨rfl, rfl, rfl, rfl, rfl⟩ rfl rfl rfl rfl rfl (by kernel_rfl) Try.func4 (by kernel_rfl)
    (of_decide_eq_true (by kernel_rfl)) (by unfold Func.isWrapper; first | (rw [if_pos (by decide +kernel)]; kernel_rfl) | (rw [if_neg (by decide +kernel)]; exact ⟨rfl, rfl⟩))
    (fun os started H enc _ => lifted os started H enc)

/-- ████ THE STATEMENT ████ -/
theorem proved : Rows.FnSideMirrorsOnSwapAndIgnoresShiftSaid :=
  over
#print axioms proved
end Go.Proofs.Qxb6605639a.fnSideMirrorsOnSwapAndIgnoresShift
