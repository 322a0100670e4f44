/-
  THE WALK of the law FnSideAnchoredClasses.
-/
import Derived.Test.Qxb6605639aMirrorWalk
namespace Go.Proofs.Qxb6605639a
open Go.RowKit

theorem run_quo_some (x y r : Nat) (h : Ieee.double.div x y = some r) (w : World) : (binOp .quo 22 (.float .f64 x) (.float .f64 y)).run Try.prog w = .ok (.float .f64 r) w :=
  run_float_arith w .quo 22 .f64 x y r h

set_option maxHeartbeats 1000000 in
theorem anchor_nan (n d : Int) (n1 : -4503599627370496 ≤ n) (n2 : n ≤ 4503599627370496) (d1 : -4503599627370496 ≤ d) (d2 : d ≤ 4503599627370496) (E : Nat)
    (H : Hid (∀ w, Calls Try.prog 8 #[.int .i64 n, .int .i64 d, .float .f64 E] w fun e w' => e = .returned (.int .i64 0) ∧ Grown w w'))
    (q0 : (FloatKind.f64.format.order E E != some .eq) = true) (w : World) :
    Calls Try.prog 3 #[.int .i64 n, .int .i64 d, .float .f64 E] w fun e w' => e = .returned (.bool true) ∧ Grown w w' := by
  have o1 := slack_gt
  have o2 := slack_lt
  go_enter Try.func3, Try.ntmps3
  go_wp2_with (go_at_call 7; go_in)
  refine (unhide H _).mono ?_
  rintro e w1 ⟨rfl, hg1⟩
  go_wp2_with fail
  go_ret
  exact ⟨rfl, hg1⟩

set_option maxHeartbeats 1000000 in
theorem anchor_pos (n d : Int) (n1 : -4503599627370496 ≤ n) (n2 : n ≤ 4503599627370496) (d1 : -4503599627370496 ≤ d) (d2 : d ≤ 4503599627370496) (E : Nat) (X : Int)
    (H : Hid (∀ w, Calls Try.prog 8 #[.int .i64 n, .int .i64 d, .float .f64 E] w fun e w' => e = .returned (.int .i64 X) ∧ Grown w w'))
    (q0 : (FloatKind.f64.format.order E E != some .eq) = false) (q1 : (FloatKind.f64.format.order (floatOfInt .f64 (d - n)) 0 == some .gt) = true)
    (y z : Nat) (hy : Ieee.double.div (floatOfInt .f64 (d - n)) 4611686018427387904 = some y) (hz : Ieee.double.mul 4611686018427387904 (floatOfInt .f64 (d - n)) = some z)
    (hX : (X = 0 ∧ (FloatKind.f64.format.order E (floatOfInt .f64 (d - n)) == some .eq) = true) ∨ ((FloatKind.f64.format.order E (floatOfInt .f64 (d - n)) == some .eq) = false ∧
      ((X = 1 ∧ (FloatKind.f64.format.order E y == some .lt || FloatKind.f64.format.order E y == some .eq) = true) ∨ ((FloatKind.f64.format.order E y == some .lt || FloatKind.f64.format.order E y == some .eq) = false ∧
      ((X = 2 ∧ (FloatKind.f64.format.order E z == some .gt || FloatKind.f64.format.order E z == some .eq) = true) ∨ ((FloatKind.f64.format.order E z == some .gt || FloatKind.f64.format.order E z == some .eq) = false ∧ (X = 0 ∨ X = 1 ∨ X = 2))))))) (w : World) :
    Calls Try.prog 3 #[.int .i64 n, .int .i64 d, .float .f64 E] w fun e w' => e = .returned (.bool true) ∧ Grown w w' := by
  have o1 := slack_gt
  have o2 := slack_lt
  have rq := run_quo_some _ _ y hy
  have rm := run_mul_some _ _ z hz
  clear hy hz
  rcases hX with ⟨rfl, q2⟩ | ⟨q2, ⟨rfl, q3⟩ | ⟨q3, ⟨rfl, q4⟩ | ⟨q4, rfl | rfl | rfl⟩⟩⟩
  all_goals
    go_enter Try.func3, Try.ntmps3
    go_wp2_with (go_at_call 7; go_in)
    refine (unhide H _).mono ?_
    rintro e w1 ⟨rfl, hg1⟩
    go_wp2_with fail
    go_ret
    exact ⟨rfl, hg1⟩

set_option maxHeartbeats 1000000 in
theorem anchor_zero (n d : Int) (n1 : -4503599627370496 ≤ n) (n2 : n ≤ 4503599627370496) (d1 : -4503599627370496 ≤ d) (d2 : d ≤ 4503599627370496) (E : Nat) (X : Int)
    (H : Hid (∀ w, Calls Try.prog 8 #[.int .i64 n, .int .i64 d, .float .f64 E] w fun e w' => e = .returned (.int .i64 X) ∧ Grown w w'))
    (q0 : (FloatKind.f64.format.order E E != some .eq) = false) (q1 : (FloatKind.f64.format.order (floatOfInt .f64 (d - n)) 0 == some .gt) = false) (q2 : (FloatKind.f64.format.order (floatOfInt .f64 (d - n)) 0 == some .eq) = true)
    (hX : (X = 2 ∧ (FloatKind.f64.format.order E 0 == some .gt) = true) ∨ ((FloatKind.f64.format.order E 0 == some .gt) = false ∧
      ((X = 1 ∧ (FloatKind.f64.format.order E 0 == some .lt) = true) ∨ (X = 0 ∧ (FloatKind.f64.format.order E 0 == some .lt) = false)))) (w : World) :
    Calls Try.prog 3 #[.int .i64 n, .int .i64 d, .float .f64 E] w fun e w' => e = .returned (.bool true) ∧ Grown w w' := by
  have o1 := slack_gt
  have o2 := slack_lt
  rcases hX with ⟨rfl, q3⟩ | ⟨q3, ⟨rfl, q4⟩ | ⟨rfl, q4⟩⟩
  all_goals
    go_enter Try.func3, Try.ntmps3
    go_wp2_with (go_at_call 7; go_in)
    refine (unhide H _).mono ?_
    rintro e w1 ⟨rfl, hg1⟩
    go_wp2_with fail
    go_ret
    exact ⟨rfl, hg1⟩

set_option maxHeartbeats 1000000 in
theorem anchor_neg (n d : Int) (n1 : -4503599627370496 ≤ n) (n2 : n ≤ 4503599627370496) (d1 : -4503599627370496 ≤ d) (d2 : d ≤ 4503599627370496) (E : Nat) (X : Int)
    (H : Hid (∀ w, Calls Try.prog 8 #[.int .i64 n, .int .i64 d, .float .f64 E] w fun e w' => e = .returned (.int .i64 X) ∧ Grown w w'))
    (q0 : (FloatKind.f64.format.order E E != some .eq) = false) (q1 : (FloatKind.f64.format.order (floatOfInt .f64 (d - n)) 0 == some .gt) = false) (q2 : (FloatKind.f64.format.order (floatOfInt .f64 (d - n)) 0 == some .eq) = false)
    (z : Nat) (hz : Ieee.double.mul 4611686018427387904 (floatOfInt .f64 (d - n)) = some z)
    (hX : (X = 2 ∧ (FloatKind.f64.format.order E 0 == some .gt || FloatKind.f64.format.order E 0 == some .eq) = true) ∨ ((FloatKind.f64.format.order E 0 == some .gt || FloatKind.f64.format.order E 0 == some .eq) = false ∧
      ((X = 1 ∧ (FloatKind.f64.format.order E z == some .lt || FloatKind.f64.format.order E z == some .eq) = true) ∨ ((FloatKind.f64.format.order E z == some .lt || FloatKind.f64.format.order E z == some .eq) = false ∧ (X = 0 ∨ X = 1 ∨ X = 2))))) (w : World) :
    Calls Try.prog 3 #[.int .i64 n, .int .i64 d, .float .f64 E] w fun e w' => e = .returned (.bool true) ∧ Grown w w' := by
  have o1 := slack_gt
  have o2 := slack_lt
  have rm := run_mul_some _ _ z hz
  clear hz
  rcases hX with ⟨rfl, q3⟩ | ⟨q3, ⟨rfl, q4⟩ | ⟨q4, rfl | rfl | rfl⟩⟩
  all_goals
    go_enter Try.func3, Try.ntmps3
    go_wp2_with (go_at_call 7; go_in)
    refine (unhide H _).mono ?_
    rintro e w1 ⟨rfl, hg1⟩
    go_wp2_with fail
    go_ret
    exact ⟨rfl, hg1⟩
end Go.Proofs.Qxb6605639a
