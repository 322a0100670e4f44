/-
  PLAIN: the two laws of 'side', over float64 words. No Go program in sight.
-/
import Derived.Test.Qxb6605639aFloat2
namespace Go.Proofs.Qxb6605639a.Fl
open Ieee

theorem fs_nan_left {x b : Nat} {s : Bool} {t : Nat} (h : double.read x = .nan s t) : fs x b = false := by
  unfold fs; cases double.mul b C with
  | none => rfl
  | some y => show (double.order x y == some .lt) = false; rw [order_nan_left h]; rfl
theorem fs_nan_right {x b : Nat} {s : Bool} {t : Nat} (h : double.read b = .nan s t) : fs x b = false := by
  unfold fs; rw [mul_nan h]
theorem fs_inf_left {x b : Nat} {s : Bool} {a : Int} (h : double.read x = .infinity s) (hb : Is b a) : fs x b = s := by
  obtain ⟨y, d, e, hy, _⟩ := mulC_is hb
  unfold fs; rw [e]
  show (double.order x y == some .lt) = s
  rw [order_inf_is h hy]; cases s <;> rfl
theorem fs_inf_right {x b : Nat} {s : Bool} {a : Int} (h : double.read b = .infinity s) (hx : Is x a) : fs x b = !s := by
  obtain ⟨y, e, hy⟩ := mulC_inf h
  unfold fs; rw [e]
  show (double.order x y == some .lt) = !s
  rw [order_is_inf hy hx]; cases s <;> rfl

/-- A NaN is at the deadline. -/
theorem side_nan {E F : Nat} (h : (double.order E E != some .eq) = true) : sideOf E F = 0 := by
  rcases word_cases E with ⟨a, ha⟩ | ⟨s, hs⟩ | ⟨s, t, hn⟩
  · rw [order_is_self ha] at h; cases h
  · rw [order_inf_self hs] at h; cases h
  · unfold sideOf; rw [fs_nan_left hn, fs_nan_right hn]; rfl

/-- An infinity, not a NaN, against a finite time to go. -/
theorem side_inf {E F : Nat} {s : Bool} {c : Int} (h : double.read E = .infinity s) (hF : Is F c) : sideOf E F = if s then 1 else 2 := by
  unfold sideOf; rw [fs_inf_left h hF, fs_inf_right h hF]; cases s <;> rfl

theorem side_is {E F : Nat} {a c : Int} (hE : Is E a) (hF : Is F c) : ∃ d e : Int, sideOf E F = (if a < d then 1 else if c < e then 2 else 0) ∧
    ((0 ≤ c → 0 ≤ d ∧ d ≤ c) ∧ (c ≤ 0 → c ≤ d ∧ d ≤ 0) ∧ (0 < c → 0 < d) ∧ (c < 0 → d < 0) ∧ (U ≤ c → c < 2 * d) ∧ (c ≤ -U → 2 * d < c)) ∧
    ((0 ≤ a → 0 ≤ e ∧ e ≤ a) ∧ (a ≤ 0 → a ≤ e ∧ e ≤ 0) ∧ (0 < a → 0 < e) ∧ (a < 0 → e < 0) ∧ (U ≤ a → a < 2 * e) ∧ (a ≤ -U → 2 * e < a)) := by
  obtain ⟨d, h1, h2⟩ := fs_is hE hF
  obtain ⟨e, h3, h4⟩ := fs_is hF hE
  refine ⟨d, e, ?_, h2, h4⟩
  unfold sideOf; rw [h1, h3]; simp only [decide_eq_true_eq]

/-! ### The times to go -/
theorem int_is (n : Int) (h1 : -9007199254740992 ≤ n) (h2 : n ≤ 9007199254740992) : Is (floatOfInt .f64 n) (n * U) := (int_num n h1 h2).1
theorem zero_is : Is 0 0 := is_zero false

theorem unit_le (n : Int) (h : 1 ≤ n) : U ≤ n * U := by
  have hU := U_great
  have := Int.mul_le_mul_of_nonneg_right h (by omega : (0 : Int) ≤ U)
  omega
theorem neg_unit (n : Int) (h : n ≤ -1) : n * U ≤ -U := by
  have hU := U_great
  have := Int.mul_le_mul_of_nonneg_right h (by omega : (0 : Int) ≤ U)
  omega

theorem half_is (n : Int) (h0 : 0 < n) (h2 : n ≤ 9007199254740992) : ∃ y b, double.div (floatOfInt .f64 n) TWO = some y ∧ Is y b ∧ 2 * b = n * U := by
  obtain ⟨k, hk, hv, _, hB⟩ := (int_num n (by omega) h2).2 (by omega)
  obtain ⟨y, e, hy⟩ := half_num hk hB
  refine ⟨y, _, e, ⟨_, _, hy, rfl⟩, ?_⟩
  have e1 := (V_halfUp k hB).1
  rw [decide_eq_false (by omega), sv_false]
  have e2 : n * U = ((n.natAbs * UN : Nat) : Int) := by
    unfold U; rw [Int.natCast_mul, show ((n.natAbs : Nat) : Int) = n from by omega]
  rw [e2, ← hv]; omega

theorem dbl_is (n : Int) (h0 : n ≠ 0) (h1 : -9007199254740992 ≤ n) (h2 : n ≤ 9007199254740992) : ∃ y b, double.mul TWO (floatOfInt .f64 n) = some y ∧ Is y b ∧ b = 2 * (n * U) := by
  obtain ⟨k, hk, hv, hR, hB⟩ := (int_num n h1 h2).2 h0
  obtain ⟨y, e, hy⟩ := dbl_num hk hR hB
  refine ⟨y, _, e, ⟨_, _, hy, rfl⟩, ?_⟩
  rw [V_double k (by omega)]
  by_cases hn : n < 0
  · have e2 : n * U = -((n.natAbs * UN : Nat) : Int) := by
      unfold U; rw [Int.natCast_mul, ← Int.neg_mul, show -((n.natAbs : Nat) : Int) = n from by omega]
    rw [decide_eq_true hn, sv_true, e2, ← hv]; omega
  · have e2 : n * U = ((n.natAbs * UN : Nat) : Int) := by
      unfold U; rw [Int.natCast_mul, show ((n.natAbs : Nat) : Int) = n from by omega]
    rw [decide_eq_false hn, sv_false, e2, ← hv]; omega

/-- The sign of the time to go. -/
theorem int_pos (n : Int) (h1 : -9007199254740992 ≤ n) (h2 : n ≤ 9007199254740992) : (double.order (floatOfInt .f64 n) 0 == some .gt) = decide (0 < n) := by
  rw [gt_is (int_is n h1 h2) zero_is]
  have hU := U_great
  rcases Int.lt_trichotomy n 0 with h | h | h
  · have := neg_unit n (by omega); simp; omega
  · subst h; simp
  · have := unit_le n (by omega); simp; omega
theorem int_zero (n : Int) (h1 : -9007199254740992 ≤ n) (h2 : n ≤ 9007199254740992) : (double.order (floatOfInt .f64 n) 0 == some .eq) = decide (n = 0) := by
  rw [eq_is (int_is n h1 h2) zero_is]
  have hU := U_great
  rcases Int.lt_trichotomy n 0 with h | h | h
  · have := neg_unit n (by omega); simp; omega
  · subst h; simp
  · have := unit_le n (by omega); simp; omega

section
variable {E : Nat} {n : Int}

theorem pos_eq (hn : (double.order E E != some .eq) = false) (h0 : 0 < n) (h2 : n ≤ 9007199254740992) (h : (double.order E (floatOfInt .f64 n) == some .eq) = true) : sideOf E (floatOfInt .f64 n) = 0 := by
  have hF := int_is n (by omega) h2
  have hp := unit_le n (by omega)
  have hU := U_great
  rcases word_cases E with ⟨a, ha⟩ | ⟨s, hs⟩ | ⟨s, t, hx⟩
  · rw [eq_is ha hF, decide_eq_true_eq] at h
    obtain ⟨d, e, hs, g1, g2⟩ := side_is ha hF
    rw [hs, if_neg (by omega), if_neg (by omega)]
  · rw [order_inf_is hs hF] at h; cases s <;> cases h
  · rw [order_nan_left hx] at hn; cases hn

theorem pos_half {y : Nat} (hn : (double.order E E != some .eq) = false) (h0 : 0 < n) (h2 : n ≤ 9007199254740992) (hy : double.div (floatOfInt .f64 n) TWO = some y)
    (h : (double.order E y == some .lt || double.order E y == some .eq) = true) : sideOf E (floatOfInt .f64 n) = 1 := by
  have hF := int_is n (by omega) h2
  have hp := unit_le n (by omega)
  have hU := U_great
  obtain ⟨y', b, e1, hb, e2⟩ := half_is n h0 h2
  rw [hy] at e1; cases e1
  rcases word_cases E with ⟨a, ha⟩ | ⟨s, hs⟩ | ⟨s, t, hx⟩
  · rw [lt_is ha hb, eq_is ha hb] at h
    simp only [Bool.or_eq_true, decide_eq_true_eq] at h
    obtain ⟨d, e, hs, g1, g2⟩ := side_is ha hF
    rw [hs, if_pos (by omega)]
  · rw [order_inf_is hs hb] at h; rw [side_inf hs hF]; cases s
    · cases h
    · rfl
  · rw [order_nan_left hx] at hn; cases hn

theorem pos_dbl {y : Nat} (hn : (double.order E E != some .eq) = false) (h0 : 0 < n) (h2 : n ≤ 9007199254740992) (hy : double.mul TWO (floatOfInt .f64 n) = some y)
    (h : (double.order E y == some .gt || double.order E y == some .eq) = true) : sideOf E (floatOfInt .f64 n) = 2 := by
  have hF := int_is n (by omega) h2
  have hp := unit_le n (by omega)
  have hU := U_great
  obtain ⟨y', b, e1, hb, e2⟩ := dbl_is n (by omega) (by omega) h2
  rw [hy] at e1; cases e1
  rcases word_cases E with ⟨a, ha⟩ | ⟨s, hs⟩ | ⟨s, t, hx⟩
  · rw [gt_is ha hb, eq_is ha hb] at h
    simp only [Bool.or_eq_true, decide_eq_true_eq] at h
    obtain ⟨d, e, hs, g1, g2⟩ := side_is ha hF
    rw [hs, if_neg (by omega), if_pos (by omega)]
  · rw [order_inf_is hs hb] at h; rw [side_inf hs hF]; cases s
    · rfl
    · cases h
  · rw [order_nan_left hx] at hn; cases hn

theorem zero_gt (hn : (double.order E E != some .eq) = false) (h : (double.order E 0 == some .gt) = true) : sideOf E (floatOfInt .f64 0) = 2 := by
  have hF := int_is 0 (by omega) (by omega)
  rw [Int.zero_mul] at hF
  rcases word_cases E with ⟨a, ha⟩ | ⟨s, hs⟩ | ⟨s, t, hx⟩
  · rw [gt_is ha zero_is, decide_eq_true_eq] at h
    obtain ⟨d, e, hs, g1, g2⟩ := side_is ha hF
    rw [hs, if_neg (by omega), if_pos (by omega)]
  · rw [order_inf_is hs zero_is] at h; rw [side_inf hs hF]; cases s
    · rfl
    · cases h
  · rw [order_nan_left hx] at hn; cases hn

theorem zero_lt (hn : (double.order E E != some .eq) = false) (h : (double.order E 0 == some .lt) = true) : sideOf E (floatOfInt .f64 0) = 1 := by
  have hF := int_is 0 (by omega) (by omega)
  rw [Int.zero_mul] at hF
  rcases word_cases E with ⟨a, ha⟩ | ⟨s, hs⟩ | ⟨s, t, hx⟩
  · rw [lt_is ha zero_is, decide_eq_true_eq] at h
    obtain ⟨d, e, hs, g1, g2⟩ := side_is ha hF
    rw [hs, if_pos (by omega)]
  · rw [order_inf_is hs zero_is] at h; rw [side_inf hs hF]; cases s
    · cases h
    · rfl
  · rw [order_nan_left hx] at hn; cases hn

theorem zero_eq (hn : (double.order E E != some .eq) = false) (h : (double.order E 0 == some .gt) = false) (h' : (double.order E 0 == some .lt) = false) : sideOf E (floatOfInt .f64 0) = 0 := by
  have hF := int_is 0 (by omega) (by omega)
  rw [Int.zero_mul] at hF
  rcases word_cases E with ⟨a, ha⟩ | ⟨s, hs⟩ | ⟨s, t, hx⟩
  · rw [gt_is ha zero_is, decide_eq_false_iff_not] at h
    rw [lt_is ha zero_is, decide_eq_false_iff_not] at h'
    obtain ⟨d, e, hs, g1, g2⟩ := side_is ha hF
    rw [hs, if_neg (by omega), if_neg (by omega)]
  · rw [order_inf_is hs zero_is] at h h'; cases s
    · cases h
    · cases h'
  · rw [order_nan_left hx] at hn; cases hn

theorem neg_ge (hn : (double.order E E != some .eq) = false) (h0 : n < 0) (h1 : -9007199254740992 ≤ n) (h : (double.order E 0 == some .gt || double.order E 0 == some .eq) = true) : sideOf E (floatOfInt .f64 n) = 2 := by
  have hF := int_is n h1 (by omega)
  have hp := neg_unit n (by omega)
  have hU := U_great
  rcases word_cases E with ⟨a, ha⟩ | ⟨s, hs⟩ | ⟨s, t, hx⟩
  · rw [gt_is ha zero_is, eq_is ha zero_is] at h
    simp only [Bool.or_eq_true, decide_eq_true_eq] at h
    obtain ⟨d, e, hs, g1, g2⟩ := side_is ha hF
    rw [hs, if_neg (by omega), if_pos (by omega)]
  · rw [order_inf_is hs zero_is] at h; rw [side_inf hs hF]; cases s
    · rfl
    · cases h
  · rw [order_nan_left hx] at hn; cases hn

theorem neg_le {y : Nat} (hn : (double.order E E != some .eq) = false) (h0 : n < 0) (h1 : -9007199254740992 ≤ n) (hy : double.mul TWO (floatOfInt .f64 n) = some y)
    (h : (double.order E y == some .lt || double.order E y == some .eq) = true) : sideOf E (floatOfInt .f64 n) = 1 := by
  have hF := int_is n h1 (by omega)
  have hp := neg_unit n (by omega)
  have hU := U_great
  obtain ⟨y', b, e1, hb, e2⟩ := dbl_is n (by omega) h1 (by omega)
  rw [hy] at e1; cases e1
  rcases word_cases E with ⟨a, ha⟩ | ⟨s, hs⟩ | ⟨s, t, hx⟩
  · rw [lt_is ha hb, eq_is ha hb] at h
    simp only [Bool.or_eq_true, decide_eq_true_eq] at h
    obtain ⟨d, e, hs, g1, g2⟩ := side_is ha hF
    rw [hs, if_pos (by omega)]
  · rw [order_inf_is hs hb] at h; rw [side_inf hs hF]; cases s
    · cases h
    · rfl
  · rw [order_nan_left hx] at hn; cases hn
end

/-! ### The second law: whole numbers on both sides -/
/-- Before and after, swapped. -/
def mirror (x : Int) : Int := if x = 1 then 2 else if x = 2 then 1 else x

theorem mirror_law (a b : Int) (ha : 0 ≤ a) (ha' : a ≤ 1125899906842624) (hb : 0 ≤ b) (hb' : b ≤ 1125899906842624) :
    sideOf (floatOfInt .f64 a) (floatOfInt .f64 b) = mirror (sideOf (floatOfInt .f64 b) (floatOfInt .f64 a)) ∧
    (a = b → sideOf (floatOfInt .f64 b) (floatOfInt .f64 a) = 0) ∧
    (0 < b → 2 * a ≤ b → sideOf (floatOfInt .f64 b) (floatOfInt .f64 a) = 2) ∧
    (0 < a → 2 * b ≤ a → sideOf (floatOfInt .f64 b) (floatOfInt .f64 a) = 1) := by
  have hA := int_is a (by omega) (by omega)
  have hB := int_is b (by omega) (by omega)
  have hU := U_great
  obtain ⟨d, h1, h2⟩ := fs_is hA hB
  obtain ⟨e, h3, h4⟩ := fs_is hB hA
  have a0 : 0 ≤ a * U := Int.mul_nonneg ha (by omega)
  have b0 : 0 ≤ b * U := Int.mul_nonneg hb (by omega)
  unfold sideOf
  rw [h1, h3]
  simp only [decide_eq_true_eq]
  refine ⟨?_, ?_, ?_, ?_⟩
  · unfold mirror
    by_cases p : a * U < d
    · have q : ¬ b * U < e := by omega
      rw [if_pos p, if_neg q, if_pos p]; rfl
    · rw [if_neg p]
      by_cases q : b * U < e
      · rw [if_pos q, if_pos q]; rfl
      · rw [if_neg q, if_neg q, if_neg p]; rfl
  · intro h; subst h
    rw [if_neg (by omega), if_neg (by omega)]
  · intro h5 h6
    have p1 := unit_le b (by omega)
    have p2 : 2 * a * U ≤ b * U := Int.mul_le_mul_of_nonneg_right h6 (by omega)
    rw [Int.mul_assoc] at p2
    rw [if_neg (by omega), if_pos (by omega)]
  · intro h5 h6
    have p1 := unit_le a (by omega)
    have p2 : 2 * b * U ≤ a * U := Int.mul_le_mul_of_nonneg_right h6 (by omega)
    rw [Int.mul_assoc] at p2
    rw [if_pos (by omega)]

end Go.Proofs.Qxb6605639a.Fl
