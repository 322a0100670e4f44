/-
  THE WALK of the law FnSideMirrorsOnSwapAndIgnoresShift.
-/
import Derived.Test.Qxb6605639aSideWalks2
namespace Go.Proofs.Qxb6605639a
open Go.RowKit

theorem wf64 {x : Int} (h : (Lit.int .i64 x).wf = true) : -9223372036854775808 ≤ x ∧ x ≤ 9223372036854775807 := by
  simp [Lit.wf, IntKind.min, IntKind.max, IntKind.signed, IntKind.bits] at h
  omega
theorem grown_trans {a b c : World} (h1 : Grown a b) (h2 : Grown b c) : Grown a c :=
  ⟨World.keptBut_mono (fun _ h => h) (World.keptBut_trans h1.1 h2.1), fun x => (h2.2.1 x).trans (h1.2.1 x), Nat.le_trans h1.2.2 h2.2.2⟩

theorem slack_gt : (FloatKind.f64.format.order 4472406533629990549 0 == some .gt) = true := by decide
theorem slack_lt : (FloatKind.f64.format.order 4472406533629990549 4598175219545276416 == some .lt) = true := by decide

/-- 'ZZside' at a given time to go. -/
theorem zside_at (a b d : Int) (hd : b - a = d) (E : Nat) (X : Int) (hX : Fl.sideOf E (floatOfInt .f64 d) = X) (b1 : -9007199254740992 ≤ d) (b2 : d ≤ 9007199254740992) :
    ∀ w, Calls Try.prog 8 #[.int .i64 a, .int .i64 b, .float .f64 E] w fun e w' => e = .returned (.int .i64 X) ∧ Grown w w' := by
  intro w
  have h := zside_any a b E w (by omega) (by omega)
  rw [hd, hX] at h
  exact h

set_option maxHeartbeats 1000000 in
theorem mirror_core (n s a b : Int) (n1 : -1125899906842624 ≤ n) (n2 : n ≤ 1125899906842624) (s1 : -1125899906842624 ≤ s) (s2 : s ≤ 1125899906842624)
    (a1 : 0 ≤ a) (a2 : a ≤ 1125899906842624) (b1 : 0 ≤ b) (b2 : b ≤ 1125899906842624) (X Y : Int)
    (H1 : Hid (∀ w, Calls Try.prog 8 #[.int .i64 n, .int .i64 (n + a), .float .f64 (floatOfInt .f64 b)] w fun e w' => e = .returned (.int .i64 X) ∧ Grown w w'))
    (H2 : Hid (∀ w, Calls Try.prog 8 #[.int .i64 n, .int .i64 (n + b), .float .f64 (floatOfInt .f64 a)] w fun e w' => e = .returned (.int .i64 Y) ∧ Grown w w'))
    (H3 : Hid (∀ w, Calls Try.prog 8 #[.int .i64 (n + s), .int .i64 (n + s + a), .float .f64 (floatOfInt .f64 b)] w fun e w' => e = .returned (.int .i64 X) ∧ Grown w w'))
    (hX : (X = 0 ∧ Y = 0 ∧ (a = b ∨ (¬ a = b ∧ 0 < a ∧ 0 < b ∧ ¬ 2 * a ≤ b ∧ ¬ 2 * b ≤ a))) ∨
      (X = 1 ∧ Y = 2 ∧ ¬ a = b ∧ (¬ 0 < b ∧ 0 < a ∧ 2 * b ≤ a ∨ 0 < b ∧ ¬ 2 * a ≤ b ∧ 0 < a ∧ 2 * b ≤ a ∨ 0 < b ∧ ¬ 2 * a ≤ b ∧ 0 < a ∧ ¬ 2 * b ≤ a)) ∨
      (X = 2 ∧ Y = 1 ∧ ¬ a = b ∧ 0 < b ∧ (2 * a ≤ b ∨ ¬ 2 * a ≤ b ∧ 0 < a ∧ ¬ 2 * b ≤ a))) (w : World) :
    Calls Try.prog 4 #[.int .i64 n, .int .i64 s, .int .i64 a, .int .i64 b] w fun e w' => e = .returned (.bool true) ∧ Grown w w' := by
  have o1 := slack_gt
  have o2 := slack_lt
  rcases hX with ⟨rfl, rfl, rfl | ⟨h1, h2, h3, h4, h5⟩⟩ | ⟨rfl, rfl, h1, ⟨h2, h3, h4⟩ | ⟨h2, h3, h4, h5⟩ | ⟨h2, h3, h4, h5⟩⟩ | ⟨rfl, rfl, h1, h2, h3 | ⟨h3, h4, h5⟩⟩
  all_goals
    go_enter Try.func4, Try.ntmps4
    go_wp2_with (go_at_call 7; go_in)
    refine (unhide H1 _).mono ?_
    rintro e w1 ⟨rfl, hg1⟩
    go_wp2_with fail
    refine (unhide H2 _).mono ?_
    rintro e w2 ⟨rfl, hg2⟩
    go_wp2_with fail
    refine (unhide H3 _).mono ?_
    rintro e w3 ⟨rfl, hg3⟩
    go_wp2_with (go_at_call 9; go_in)
    go_ret
    exact ⟨rfl, grown_trans hg1 (grown_trans hg2 hg3)⟩
end Go.Proofs.Qxb6605639a
