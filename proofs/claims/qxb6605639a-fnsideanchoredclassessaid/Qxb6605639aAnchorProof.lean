/-
  THE LAW 'FnSideAnchoredClasses', PROVED: the frame is the guide's shell, the walk lies in Qxb6605639aAnchorWalk.
-/
import Derived.Test.Qxb6605639aRows
import Derived.WalkKit
import Derived.ProofKit
import Derived.OpenShut
import Derived.ShutString
import Derived.Test.Qxb6605639aAnchorWalk
namespace Go.Proofs.Qxb6605639a.fnSideAnchoredClasses
open Go.ChangeShapes Go.WideShapes Go.ChangeAt Go.RowKit
open Go.ChangeMaps (open_string shut_string)
set_option linter.unusedVariables false      -- a walk need not use every 'w<i>' (that an integer argument fits its kind)

theorem own : ownKnob Try.prog.godebug = none := by kernel_rfl

/-! ### STEP 1: THE WALK -/
set_option maxHeartbeats 1000000 in
theorem walk_out (n d : Int) (E : Nat) (h : n < -4503599627370496 ∨ (-4503599627370496 ≤ n ∧ 4503599627370496 < n) ∨ (-4503599627370496 ≤ n ∧ n ≤ 4503599627370496 ∧
      (d < -4503599627370496 ∨ (-4503599627370496 ≤ d ∧ 4503599627370496 < d)))) (w : World) :
    Calls Try.prog 3 #[.int .i64 n, .int .i64 d, .float .f64 E] w fun e w' => e = .returned (.bool true) ∧ Grown w w' := by
  rcases h with h | ⟨h1, h2⟩ | ⟨h1, h2, h | ⟨h3, h4⟩⟩
  all_goals
    go_enter Try.func3, Try.ntmps3
    go_wp2_with fail
    go_ret
    exact ⟨rfl, Grown.refl _⟩

theorem walk (n d : Int) (E : Nat) (w : World) :
    Calls Try.prog 3 #[.int .i64 n, .int .i64 d, .float .f64 E] w fun e w' => e = .returned (.bool true) ∧ Grown w w' := by
  by_cases h : -4503599627370496 ≤ n ∧ n ≤ 4503599627370496 ∧ -4503599627370496 ≤ d ∧ d ≤ 4503599627370496
  · obtain ⟨h1, h2, h3, h4⟩ := h
    have H := fun X hX => hide (zside_at n d (d - n) rfl E X hX (by omega) (by omega))
    have hr := Fl.side_range E (floatOfInt .f64 (d - n))
    cases q0 : (FloatKind.f64.format.order E E != some .eq) with
    | true => exact anchor_nan n d h1 h2 h3 h4 E (H 0 (Fl.side_nan q0)) q0 w
    | false =>
      have p1 : (FloatKind.f64.format.order (floatOfInt .f64 (d - n)) 0 == some .gt) = decide (0 < d - n) := Fl.int_pos (d - n) (by omega) (by omega)
      have p2 : (FloatKind.f64.format.order (floatOfInt .f64 (d - n)) 0 == some .eq) = decide (d - n = 0) := Fl.int_zero (d - n) (by omega) (by omega)
      rcases Int.lt_trichotomy (d - n) 0 with hd | hd | hd
      · rw [decide_eq_false (by omega)] at p1 p2
        obtain ⟨z, _, hz, _⟩ := Fl.dbl_is (d - n) (by omega) (by omega) (by omega)
        refine anchor_neg n d h1 h2 h3 h4 E _ (H _ rfl) q0 p1 p2 z hz ?_ w
        cases q3 : (FloatKind.f64.format.order E 0 == some .gt || FloatKind.f64.format.order E 0 == some .eq) with
        | true => exact Or.inl ⟨Fl.neg_ge q0 hd (by omega) q3, rfl⟩
        | false =>
          refine Or.inr ⟨rfl, ?_⟩
          cases q4 : (FloatKind.f64.format.order E z == some .lt || FloatKind.f64.format.order E z == some .eq) with
          | true => exact Or.inl ⟨Fl.neg_le q0 hd (by omega) hz q4, rfl⟩
          | false => exact Or.inr ⟨rfl, hr⟩
      · rw [decide_eq_false (by omega)] at p1
        rw [decide_eq_true hd] at p2
        refine anchor_zero n d h1 h2 h3 h4 E _ (H _ rfl) q0 p1 p2 ?_ w
        rw [hd]
        cases q3 : (FloatKind.f64.format.order E 0 == some .gt) with
        | true => exact Or.inl ⟨Fl.zero_gt q0 q3, rfl⟩
        | false =>
          refine Or.inr ⟨rfl, ?_⟩
          cases q4 : (FloatKind.f64.format.order E 0 == some .lt) with
          | true => exact Or.inl ⟨Fl.zero_lt q0 q4, rfl⟩
          | false => exact Or.inr ⟨Fl.zero_eq q0 q3 q4, rfl⟩
      · rw [decide_eq_true hd] at p1
        obtain ⟨y, _, hy, _⟩ := Fl.half_is (d - n) hd (by omega)
        obtain ⟨z, _, hz, _⟩ := Fl.dbl_is (d - n) (by omega) (by omega) (by omega)
        refine anchor_pos n d h1 h2 h3 h4 E _ (H _ rfl) q0 p1 y z hy hz ?_ w
        cases q2 : (FloatKind.f64.format.order E (floatOfInt .f64 (d - n)) == some .eq) with
        | true => exact Or.inl ⟨Fl.pos_eq q0 hd (by omega) q2, rfl⟩
        | false =>
          refine Or.inr ⟨rfl, ?_⟩
          cases q3 : (FloatKind.f64.format.order E y == some .lt || FloatKind.f64.format.order E y == some .eq) with
          | true => exact Or.inl ⟨Fl.pos_half q0 hd (by omega) hy q3, rfl⟩
          | false =>
            refine Or.inr ⟨rfl, ?_⟩
            cases q4 : (FloatKind.f64.format.order E z == some .gt || FloatKind.f64.format.order E z == some .eq) with
            | true => exact Or.inl ⟨Fl.pos_dbl q0 hd (by omega) hz q4, rfl⟩
            | false => exact Or.inr ⟨rfl, hr⟩
  · exact walk_out n d E (by omega) w

/-! ### THE ROW's STEP: WRITTEN OUT: LEAVE IT -/
set_option maxRecDepth 100000 in
theorem lifted (os : Os) (started : os.Started) (H : Type) (enc : TypeId × Value → H) :
    ReturnsInHanded {} Try.checked os 3 .any (Rows.fnSideAnchoredClassesSpec.pre6 enc Try.prog Try.f3 Rows.fnSideAnchoredClassesRow.domain false) (Rows.fnSideAnchoredClassesSpec.post enc Try.prog Try.f3 false true false false) := by
  refine returnsInHanded_of_change (C := Try.checked) own started (by kernel_rfl) Try.func3
    (ChangeSpec.witness6 (enc := enc) (C := Try.checked) false ⟨#[], #[.int .i64 0, .int .i64 0, .float .f64 0], []⟩ 8 (by kernel_rfl) (by kernel_rfl) (by kernel_rfl) (by kernel_rfl)) ?_
  intro W base args ds gs before hval0 hW hcnd _
  have hval : ∀ (j : Nat) t v, Try.f3.params[j]? = some t → args[j]? = some v → Value.okWide Try.prog W .any base t v := hval0
  have hW' := hW
  obtain ⟨p, q, hA0, hV, rfl, hfz, hnd⟩ := hW
  have hA : DataW.TrodAll enc Try.prog W 0 (fun _ => true) true Try.f3.params.toList args.toList ds p := hA0
  rw [Try.params3] at hA hval
  obtain ⟨v0, vs0, d0, ds0, p0, q0, hargs, rfl, rfl, h0, r0⟩ := trodAll_cons hA
  obtain ⟨v1, vs1, d1, ds1, p1, q1, rfl, rfl, rfl, h1, r1⟩ := trodAll_cons r0
  obtain ⟨v2, vs2, d2, ds2, p2, q2, rfl, rfl, rfl, h2, r2⟩ := trodAll_cons r1
  obtain ⟨rfl, rfl, rfl⟩ := trodAll_nil r2
  obtain rfl : args = #[v0, v1, v2] := by cases args; simp_all
  obtain ⟨rfl, rfl⟩ := trodVars_none hV
  obtain ⟨a0, rfl, rfl, rfl, w0⟩ := open_int Try.underlying2 (hval 0 2 v0 rfl rfl) h0
  obtain ⟨a1, rfl, rfl, rfl, w1⟩ := open_int Try.underlying2 (hval 1 2 v1 rfl rfl) h1
  obtain ⟨a2, rfl, rfl, rfl, w2⟩ := open_float Try.underlying22 (hval 2 22 v2 rfl rfl) h2
  clear hA0 hval0
  simp only [List.append_nil] at hW'
  refine (walk a0 a1 a2 W).mono fun e W' ⟨he, hg⟩ => ?_
  subst he
  exact ⟨_, rfl, post_of_same (pa := []) (pv := []) hW' (fun _ _ _ => (trodAll_cons_mk (shut_bool Try.underlying4 _) trodAll_mk0)) (fun sp _ => (trodAll_cons_mk (shut_int Try.underlying2 w0) (trodAll_cons_mk (shut_int Try.underlying2 w1) (trodAll_cons_mk (shut_float Try.underlying22 w2) trodAll_mk0)))) (fun _ _ => rfl) rfl
    (hg.frame _) hg.2.1 (ok_one (by kernel_rfl) rfl (okWide_bool_mk Try.underlying4 _))⟩

theorem over : Rows.fnSideAnchoredClassesRow.holds Try.pinned (OpenSpec.ofChange Rows.fnSideAnchoredClassesSpec) :=
  OpenClaim.holds_of_wide 3 Try.f3 rfl rfl rfl rfl rfl rfl rfl ⟨rfl, rfl, rfl, rfl, rfl⟩ rfl rfl rfl rfl rfl (by kernel_rfl) Try.func3 (by kernel_rfl)
    (of_decide_eq_true (by kernel_rfl)) (by unfold Func.isWrapper; first | (rw [if_pos (by decide +kernel)]; kernel_rfl) | (rw [if_neg (by decide +kernel)]; exact ⟨rfl, rfl⟩))
    (fun os started H enc _ => lifted os started H enc)

/-- ████ THE STATEMENT ████ -/
theorem proved : Rows.FnSideAnchoredClassesSaid :=
  over
#print axioms proved
end Go.Proofs.Qxb6605639a.fnSideAnchoredClasses
