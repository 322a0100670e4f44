/-
  PLAIN: float64 words as whole numbers of units of 2^-1074; comparison; the product with 1 - 1e-9; doubles and halves of whole numbers. No Go program in sight.
-/
import Derived.Test.Qxb6605639aFloat
namespace Go.Proofs.Qxb6605639a.Fl
open Ieee

theorem B_num : B = 4503599627370496 := by unfold B; rfl

/-- The rung of infinity. -/
def IR : Nat := 2047 * B
theorem ir_eq : double.infRung = IR := rfl
def SW : Nat := 9223372036854775808
theorem sw_eq : double.signWeight = SW := by decide
theorem ir_num : IR = 9218868437227405312 := by unfold IR; rw [B_num]

/-- x is the finite word of sign s at rung k. -/
def Num (x : Nat) (s : Bool) (k : Nat) : Prop := ∃ m i, double.read x = .number s m i ∧ LP ≤ i ∧ m < 2 * B ∧ m * 2 ^ (i - LP).toNat = V k ∧ k < IR

/-- The signed whole number. -/
def sv (s : Bool) (n : Nat) : Int := if s then -(n : Int) else n

theorem read_cases (x : Nat) : double.read x =
    (if x % SW < B then .number (x / SW % 2 == 1) (x % SW) LP
     else if x % SW < IR then .number (x / SW % 2 == 1) (B + x % SW % B) (LP + (x % SW / B - 1 : Nat))
     else if x % SW = IR then .infinity (x / SW % 2 == 1) else .nan (x / SW % 2 == 1) (x % SW - IR)) := rfl

theorem num_of (x : Nat) (h : x % SW < IR) : Num x (x / SW % 2 == 1) (x % SW) := by
  have hb := B_pos
  unfold Num
  rw [read_cases]
  by_cases h1 : x % SW < B
  · rw [if_pos h1]
    refine ⟨x % SW, LP, rfl, Int.le_refl _, by omega, ?_, h⟩
    rw [V_small h1, Int.sub_self]
    simp
  · rw [if_neg h1, if_pos h]
    have hm := Nat.mod_lt (x % SW) hb
    refine ⟨_, _, rfl, by omega, by omega, ?_, h⟩
    unfold V
    rw [if_neg h1]
    have e : (LP + ((x % SW / B - 1 : Nat) : Int) - LP).toNat = x % SW / B - 1 := by omega
    rw [e]

theorem word_num (s : Bool) (k : Nat) (h : k < IR) : Num (double.word s k) s k := by
  have hk : k < SW := by rw [ir_num] at h; unfold SW; omega
  have e1 : double.word s k % SW = k := by
    unfold Format.word; rw [sw_eq]
    cases s
    · exact Nat.mod_eq_of_lt hk
    · show (SW + k) % SW = k
      rw [Nat.add_mod_left, Nat.mod_eq_of_lt hk]
  have e2 : (double.word s k / SW % 2 == 1) = s := by
    unfold Format.word; rw [sw_eq]
    cases s
    · show (k / SW % 2 == 1) = false
      rw [Nat.div_eq_of_lt hk]; rfl
    · show ((SW + k) / SW % 2 == 1) = true
      rw [Nat.add_div_left _ (by decide), Nat.div_eq_of_lt hk]; rfl
  have := num_of (double.word s k) (by rw [e1]; exact h)
  rw [e1, e2] at this
  exact this

theorem word_inf (s : Bool) : double.read (double.word s double.infRung) = .infinity s := by
  cases s <;> decide

/-! ### Comparison -/
theorem signed_scale (s : Bool) (m : Nat) (i base : Int) (h1 : base ≤ i) (h2 : LP ≤ base) :
    signed s m (i - base).toNat * ((2 ^ (base - LP).toNat : Nat) : Int) = sv s (m * 2 ^ (i - LP).toNat) := by
  have e : (i - LP).toNat = (i - base).toNat + (base - LP).toNat := by omega
  unfold signed sv
  rw [e, Nat.pow_add, Nat.shiftLeft_eq, ← Nat.mul_assoc]
  cases s
  · simp
  · simp [Int.neg_mul]

theorem compare_scale (a b : Int) (c : Int) (h : 0 < c) : compare (a * c) (b * c) = compare a b := by
  rcases Int.lt_trichotomy a b with hlt | heq | hgt
  · have := Int.mul_lt_mul_of_pos_right hlt h
    rw [Int.compare_eq_lt.2 hlt, Int.compare_eq_lt.2 this]
  · rw [heq]; simp
  · have := Int.mul_lt_mul_of_pos_right hgt h
    rw [Int.compare_eq_gt.2 hgt, Int.compare_eq_gt.2 this]

theorem order_num {x y : Nat} {s t : Bool} {a b : Nat} (hx : Num x s a) (hy : Num y t b) :
    double.order x y = some (compare (sv s (V a)) (sv t (V b))) := by
  obtain ⟨m, i, rx, hi, _, vx, _⟩ := hx
  obtain ⟨n, j, ry, hj, _, vy, _⟩ := hy
  unfold Format.order
  rw [rx, ry]
  show some (compare (signed s m (i - min i j).toNat) (signed t n (j - min i j).toNat)) = _
  rw [← vx, ← vy, ← signed_scale s m i (min i j) (by omega) (by omega), ← signed_scale t n j (min i j) (by omega) (by omega), compare_scale]
  have := Nat.two_pow_pos (min i j - LP).toNat
  omega

/-- The word x stands for the whole number a of units. -/
def Is (x : Nat) (a : Int) : Prop := ∃ s k, Num x s k ∧ a = sv s (V k)

theorem order_is {x y : Nat} {a b : Int} (hx : Is x a) (hy : Is y b) : double.order x y = some (compare a b) := by
  obtain ⟨s, k, hn, rfl⟩ := hx
  obtain ⟨t, l, hm, rfl⟩ := hy
  exact order_num hn hm

theorem lt_is {x y : Nat} {a b : Int} (hx : Is x a) (hy : Is y b) : (double.order x y == some .lt) = decide (a < b) := by
  rw [order_is hx hy]
  rcases Int.lt_trichotomy a b with h | h | h
  · rw [Int.compare_eq_lt.2 h]; simp [h]
  · rw [h]; simp
  · rw [Int.compare_eq_gt.2 h]; simp; omega
theorem eq_is {x y : Nat} {a b : Int} (hx : Is x a) (hy : Is y b) : (double.order x y == some .eq) = decide (a = b) := by
  rw [order_is hx hy]
  rcases Int.lt_trichotomy a b with h | h | h
  · rw [Int.compare_eq_lt.2 h]; simp; omega
  · rw [h]; simp
  · rw [Int.compare_eq_gt.2 h]; simp; omega
theorem gt_is {x y : Nat} {a b : Int} (hx : Is x a) (hy : Is y b) : (double.order x y == some .gt) = decide (b < a) := by
  rw [order_is hx hy]
  rcases Int.lt_trichotomy a b with h | h | h
  · rw [Int.compare_eq_lt.2 h]; simp; omega
  · rw [h]; simp
  · rw [Int.compare_eq_gt.2 h]; simp [h]

/-! ### The product with 1 - 1e-9 -/
def C : Nat := 4607182418791010209
def NC : Nat := 9007199245733793
theorem read_C : double.read C = .number false NC (-53) := by decide

theorem is_zero (s : Bool) : Is (double.word s 0) 0 := by
  refine ⟨s, 0, word_num s 0 (by rw [ir_num]; omega), ?_⟩
  rw [V_zero]; cases s <;> rfl

theorem V_one : V 1 = 1 := V_small (by rw [B_num]; omega)

/-- A half of a rung in the normal numbers, and one rung more. -/
theorem V_halfUp (k : Nat) (h : 2 * B ≤ k) : V k = 2 * V (k - B) ∧ V (k - B + 1) * 2 ^ 53 ≤ V k * NC := by
  have hb := B_pos
  obtain ⟨q, kept, e, h1, h2, hv⟩ := V_form k
  have hq : 0 < q := by
    rcases Nat.eq_zero_or_pos q with h0 | h0
    · rw [h0] at e; omega
    · exact h0
  obtain ⟨p, rfl⟩ : ∃ p, q = p + 1 := ⟨q - 1, by omega⟩
  have hB := h2 hq
  have e1 : k - B = p * B + kept := by rw [Nat.add_mul] at e; omega
  have e2 : k - B + 1 = p * B + (kept + 1) := by omega
  rw [hv, e1, V_at p kept (by omega) (fun _ => hB)]
  refine ⟨by rw [Nat.pow_succ, Nat.mul_comm (2 ^ p) 2, ← Nat.mul_assoc, ← Nat.mul_assoc, Nat.mul_comm kept 2], ?_⟩
  rw [show p * B + kept + 1 = p * B + (kept + 1) from by omega, V_at p (kept + 1) (by omega) (fun _ => by omega), Nat.pow_succ]
  have key : (kept + 1) * 9007199254740992 ≤ kept * (2 * 9007199245733793) := by rw [B_num] at hB; omega
  calc (kept + 1) * 2 ^ p * 2 ^ 53 = (kept + 1) * 9007199254740992 * 2 ^ p := by rw [Nat.mul_right_comm]
    _ ≤ kept * (2 * 9007199245733793) * 2 ^ p := Nat.mul_le_mul_right _ key
    _ = kept * (2 ^ p * 2) * NC := by
      unfold NC
      rw [← Nat.mul_assoc kept, ← Nat.mul_assoc kept, Nat.mul_right_comm kept 2 9007199245733793, Nat.mul_right_comm (kept * 9007199245733793) 2, Nat.mul_right_comm (kept * 2 ^ p) 2, Nat.mul_right_comm kept (2 ^ p)]

theorem mulC_num {x : Nat} {s : Bool} {k : Nat} (hx : Num x s k) :
    ∃ y R, double.mul x C = some y ∧ Num y s R ∧ V R ≤ V k ∧ (0 < V k → 0 < V R) ∧ (2 * B ≤ V k → V k < 2 * V R) := by
  obtain ⟨m, i, rx, hi, hm, vx, hk⟩ := hx
  unfold Format.mul
  rw [rx, read_C]
  show ∃ y R, some (double.nearest (s ^^ false) (m * NC) (i + -53)) = some y ∧ _
  rw [Bool.xor_false]
  by_cases hm0 : m = 0
  · subst hm0
    refine ⟨_, 0, rfl, ?_, ?_, ?_, ?_⟩
    · rw [Nat.zero_mul]; unfold Format.nearest; rw [if_pos rfl]; exact word_num s 0 (by rw [ir_num]; omega)
    · rw [V_zero]; exact Nat.zero_le _
    · intro h; rw [← vx] at h; simp at h
    · intro h; rw [← vx, B_num] at h; simp at h
  · have hnz : m * NC ≠ 0 := by
      intro h; rcases Nat.mul_eq_zero.1 h with h | h
      · exact hm0 h
      · revert h; decide
    have ht : (0 : Int) ≤ i + -53 - LP + (53 : Nat) := by omega
    have hN : m * NC * 2 ^ (i + -53 - LP + (53 : Nat)).toNat = V k * NC := by
      rw [← vx, show (i + -53 - LP + (53 : Nat)).toNat = (i - LP).toNat from by omega, Nat.mul_right_comm]
    have hle : rungOf s (m * NC) (i + -53) ≤ k := by
      refine rungOf_le s _ _ hnz 53 ht k ?_
      rw [hN]; exact Nat.mul_le_mul_left _ (by decide)
    have hge : ∀ j, V j * 2 ^ 53 ≤ V k * NC → j ≤ rungOf s (m * NC) (i + -53) := fun j hj => by
      refine le_rungOf s _ _ hnz 53 ht j ?_
      rw [hN]; exact hj
    have h1 : 0 < V k → 0 < rungOf s (m * NC) (i + -53) := by
      intro h0
      by_cases h2 : 2 ≤ V k
      · refine hge 1 ?_
        rw [V_one]
        calc 1 * 2 ^ 53 ≤ 2 * NC := by decide
          _ ≤ V k * NC := Nat.mul_le_mul_right _ h2
      · have hV : V k = 1 := by omega
        rw [hV] at vx
        have hp2 := Nat.two_pow_pos (i - LP).toNat
        have hm1 : m = 1 := by
          have : m * 1 ≤ m * 2 ^ (i - LP).toNat := Nat.mul_le_mul_left _ hp2
          omega
        subst hm1
        have hp : 2 ^ (i - LP).toNat = 1 := by omega
        have : (i - LP).toNat = 0 := by
          cases hq : (i - LP).toNat with
          | zero => rfl
          | succ n => rw [hq, Nat.pow_succ] at hp; have := Nat.two_pow_pos n; omega
        have hi' : i = LP := by omega
        subst hi'
        cases s <;> decide
    have h2 : 2 * B ≤ V k → V k < 2 * V (rungOf s (m * NC) (i + -53)) := by
      intro h
      have hkB : 2 * B ≤ k := by
        apply Nat.le_of_not_lt; intro h'
        have := V_mono h'
        have e := V_at 0 (2 * B) (Nat.le_refl _) (by omega)
        rw [Nat.zero_mul, Nat.zero_add] at e
        omega
      obtain ⟨a1, a2⟩ := V_halfUp k hkB
      have := V_le.2 (hge _ a2)
      have := V_step (k - B)
      omega
    refine ⟨_, rungOf s (m * NC) (i + -53), rfl, ?_, V_le.2 hle, fun h => V_pos (h1 h), h2⟩
    rw [nearest_eq s _ _ hnz, ir_eq, Nat.min_eq_left (by omega)]
    exact word_num s _ (by omega)

theorem sv_false (n : Nat) : sv false n = n := rfl
theorem sv_true (n : Nat) : sv true n = -(n : Int) := rfl

/-- The unit as a number of least units; the law uses no more of it than that it is great. -/
def EX : Nat := 1074
theorem EX_eq : EX = 1074 := rfl
def UN : Nat := 2 ^ EX
def U : Int := (UN : Int)
theorem UN_great : 9007199254740992 ≤ UN := by
  unfold UN
  have : (2 : Nat) ^ 53 ≤ 2 ^ EX := Nat.pow_le_pow_right (by omega) (by rw [EX_eq]; omega)
  omega
theorem U_great : 9007199254740992 ≤ U := by
  have := UN_great
  unfold U
  omega

theorem mulC_is {x : Nat} {a : Int} (hx : Is x a) : ∃ y b, double.mul x C = some y ∧ Is y b ∧ (0 ≤ a → 0 ≤ b ∧ b ≤ a) ∧ (a ≤ 0 → a ≤ b ∧ b ≤ 0) ∧
    (0 < a → 0 < b) ∧ (a < 0 → b < 0) ∧ (U ≤ a → a < 2 * b) ∧ (a ≤ -U → 2 * b < a) := by
  obtain ⟨s, k, hn, rfl⟩ := hx
  obtain ⟨y, R, e, hy, h1, h2, h3⟩ := mulC_num hn
  have hU := U_great
  rw [B_num] at h3
  refine ⟨y, sv s (V R), e, ⟨s, R, hy, rfl⟩, ?_⟩
  cases s
  · simp only [sv_false]; omega
  · simp only [sv_true]; omega

/-! ### Whole numbers -/
theorem whole_rung (mag : Nat) (h0 : 0 < mag) (h : mag ≤ 9007199254740992) : ∃ k, V k = mag * UN ∧ k + B < IR ∧ 2 * B ≤ k := by
  have hb := B_pos
  obtain ⟨l1, l2⟩ := log2_bounds (n := mag) (by omega)
  have hL : mag.log2 ≤ 53 := by
    apply Nat.le_of_not_lt; intro h'
    have : 2 ^ 54 ≤ 2 ^ mag.log2 := Nat.pow_le_pow_right (by omega) h'
    omega
  generalize mag.log2 = L at *
  by_cases hc : L ≤ 52
  · have e1 : B = 2 ^ L * 2 ^ (52 - L) := by rw [B_eq, pow_split L 52 hc]
    have hp : 0 < 2 ^ (52 - L) := Nat.two_pow_pos _
    have g1 : B ≤ mag * 2 ^ (52 - L) := by rw [e1]; exact Nat.mul_le_mul_right _ l1
    have g2 : mag * 2 ^ (52 - L) < 2 * B := by
      rw [e1, ← Nat.mul_assoc, Nat.mul_comm 2 (2 ^ L), ← Nat.pow_succ]
      exact Nat.mul_lt_mul_of_pos_right l2 hp
    refine ⟨(1022 + L) * B + mag * 2 ^ (52 - L), ?_, ?_, ?_⟩
    · rw [V_big _ _ g1 g2, Nat.mul_assoc, ← Nat.pow_add]
      unfold UN
      rw [show 52 - L + (1022 + L) = EX from by rw [EX_eq]; omega]
    · unfold IR
      have : (1022 + L) * B ≤ 1074 * B := Nat.mul_le_mul_right _ (by omega)
      omega
    · have : 2 * B ≤ (1022 + L) * B := Nat.mul_le_mul_right _ (by omega)
      omega
  · have hL' : L = 53 := by omega
    subst hL'
    have hm : mag = 9007199254740992 := by omega
    subst hm
    refine ⟨1075 * B + B, ?_, by unfold IR; omega, by omega⟩
    rw [V_big _ _ (Nat.le_refl _) (by omega)]
    have e2 : (9007199254740992 : Nat) = B * 2 := by rw [B_num]
    unfold UN
    rw [e2, Nat.mul_assoc, Nat.mul_comm 2, ← Nat.pow_succ, show EX.succ = 1075 from rfl]

theorem int_num (n : Int) (h1 : -9007199254740992 ≤ n) (h2 : n ≤ 9007199254740992) : Is (floatOfInt .f64 n) (n * U) ∧
    (n ≠ 0 → ∃ k, Num (floatOfInt .f64 n) (decide (n < 0)) k ∧ V k = n.natAbs * UN ∧ k + B < IR ∧ 2 * B ≤ k) := by
  have e : floatOfInt .f64 n = double.nearest (decide (n < 0)) n.natAbs 0 := rfl
  by_cases h0 : n = 0
  · subst h0
    refine ⟨?_, fun h => absurd rfl h⟩
    rw [e, Int.zero_mul]
    exact is_zero false
  · obtain ⟨k, hk, hk1, hk2⟩ := whole_rung n.natAbs (by omega) (by omega)
    have hN : n.natAbs * 2 ^ ((0 : Int) - LP + (0 : Nat)).toNat = V k := by
      rw [hk, show ((0 : Int) - LP + (0 : Nat)).toNat = EX from rfl]; unfold UN; exact Eq.refl _
    have hr : rungOf (decide (n < 0)) n.natAbs 0 = k := by
      apply Nat.le_antisymm
      · exact rungOf_le _ _ _ (by omega) 0 (by decide) k (by rw [hN]; omega)
      · exact le_rungOf _ _ _ (by omega) 0 (by decide) k (by rw [hN]; omega)
    have hw : Num (floatOfInt .f64 n) (decide (n < 0)) k := by
      rw [e, nearest_eq _ _ _ (by omega), hr, ir_eq, Nat.min_eq_left (by omega)]
      exact word_num _ _ (by omega)
    refine ⟨⟨_, k, hw, ?_⟩, fun _ => ⟨k, hw, hk, hk1, hk2⟩⟩
    rw [hk]
    unfold U
    by_cases hn : n < 0
    · rw [decide_eq_true hn, sv_true, Int.natCast_mul, ← Int.neg_mul, show -((n.natAbs : Nat) : Int) = n from by omega]
    · rw [decide_eq_false hn, sv_false, Int.natCast_mul, show ((n.natAbs : Nat) : Int) = n from by omega]

def TWO : Nat := 4611686018427387904
theorem read_TWO : double.read TWO = .number false 4503599627370496 (-51) := by decide

theorem V_double (k : Nat) (h : B ≤ k) : V (k + B) = 2 * V k := by
  have := (V_halfUp (k + B) (by omega)).1
  rw [Nat.add_sub_cancel] at this
  exact this

theorem dbl_num {x : Nat} {s : Bool} {k : Nat} (hx : Num x s k) (h1 : k + B < IR) (h2 : 2 * B ≤ k) :
    ∃ y, double.mul TWO x = some y ∧ Num y s (k + B) := by
  have hb := B_pos
  obtain ⟨m, i, rx, hi, hm, vx, hk⟩ := hx
  unfold Format.mul
  rw [rx, read_TWO]
  show ∃ y, some (double.nearest (false ^^ s) (4503599627370496 * m) (-51 + i)) = some y ∧ _
  rw [Bool.false_xor]
  have hV := V_pos (k := k) (by omega)
  have hm0 : m ≠ 0 := by intro h; rw [h] at vx; omega
  have hnz : 4503599627370496 * m ≠ 0 := by omega
  have hN : 4503599627370496 * m * 2 ^ (-51 + i - LP + (51 : Nat)).toNat = V (k + B) * 2 ^ 51 := by
    rw [V_double k (by omega), show (-51 + i - LP + (51 : Nat)).toNat = (i - LP).toNat from by omega, Nat.mul_assoc, vx]
    omega
  have hr : rungOf s (4503599627370496 * m) (-51 + i) = k + B := by
    apply Nat.le_antisymm
    · exact rungOf_le _ _ _ hnz 51 (by omega) _ (by rw [hN]; omega)
    · exact le_rungOf _ _ _ hnz 51 (by omega) _ (by rw [hN]; omega)
  refine ⟨_, rfl, ?_⟩
  rw [nearest_eq _ _ _ hnz, hr, ir_eq, Nat.min_eq_left (by omega)]
  exact word_num _ _ h1

theorem half_num {x : Nat} {s : Bool} {k : Nat} (hx : Num x s k) (h2 : 2 * B ≤ k) :
    ∃ y, double.div x TWO = some y ∧ Num y s (k - B) := by
  have hb := B_pos
  obtain ⟨m, i, rx, hi, hm, vx, hk⟩ := hx
  have hV := V_pos (k := k) (by omega)
  have hm0 : m ≠ 0 := by intro h; rw [h] at vx; omega
  obtain ⟨l1, l2⟩ := log2_bounds hm0
  have hL : m.log2 ≤ 52 := by
    apply Nat.le_of_not_lt; intro h'
    have : 2 ^ 53 ≤ 2 ^ m.log2 := Nat.pow_le_pow_right (by omega) h'
    rw [B_num] at hm
    omega
  unfold Format.div
  rw [rx, read_TWO]
  have hlog : (4503599627370496 : Nat).log2 = 52 := by decide
  have hq : Datum.quotient (double.fractionBits + 2) (.number s m i) (.number false 4503599627370496 (-51)) =
      some (.number s (m * 2 ^ (106 - m.log2 - 51)) (i + 51 - (106 - m.log2 : Nat) - 1)) := by
    show (if (4503599627370496 : Nat) = 0 then (if m = 0 then none else some (Datum.infinity (s ^^ false))) else some (Datum.number (s ^^ false) (2 * ((m <<< (54 + (4503599627370496 : Nat).log2 - m.log2)) / 4503599627370496) + ((m <<< (54 + (4503599627370496 : Nat).log2 - m.log2)) % 4503599627370496 != 0).toNat) (i - -51 - (54 + (4503599627370496 : Nat).log2 - m.log2 : Nat) - 1))) = _
    rw [if_neg (by omega), hlog, Bool.xor_false]
    have es : 54 + 52 - m.log2 = 106 - m.log2 := by omega
    rw [es, Nat.shiftLeft_eq]
    have ed : m * 2 ^ (106 - m.log2) = m * 2 ^ (106 - m.log2 - 52) * 4503599627370496 := by
      rw [pow_split 52 (106 - m.log2) (by omega), Nat.mul_comm (2 ^ 52), ← Nat.mul_assoc]
    rw [ed, Nat.mul_div_cancel _ (by omega), Nat.mul_mod_left]
    congr 2
    · have : 106 - m.log2 - 51 = (106 - m.log2 - 52) + 1 := by omega
      rw [this, Nat.pow_succ, Nat.mul_comm 2 (m * _), Nat.mul_assoc]
      rfl
  rw [hq]
  have hnz : m * 2 ^ (106 - m.log2 - 51) ≠ 0 := by
    intro h; rcases Nat.mul_eq_zero.1 h with h | h
    · exact hm0 h
    · have := Nat.two_pow_pos (106 - m.log2 - 51); omega
  have hN : m * 2 ^ (106 - m.log2 - 51) * 2 ^ (i + 51 - (106 - m.log2 : Nat) - 1 - LP + (106 - m.log2 : Nat)).toNat = V (k - B) * 2 ^ (106 - m.log2) := by
    have e1 := (V_halfUp k h2).1
    rw [← vx] at e1
    rw [show (i + 51 - (106 - m.log2 : Nat) - 1 - LP + (106 - m.log2 : Nat)).toNat = (i - LP).toNat + 50 from by omega,
      show 106 - m.log2 = (106 - m.log2 - 51) + 51 from by omega, Nat.pow_add, Nat.pow_add, Nat.add_sub_cancel]
    have e2 : m * 2 ^ (106 - m.log2 - 51) * (2 ^ (i - LP).toNat * 2 ^ 50) = m * 2 ^ (i - LP).toNat * (2 ^ (106 - m.log2 - 51) * 2 ^ 50) := by
      rw [← Nat.mul_assoc, ← Nat.mul_assoc, Nat.mul_right_comm m]
    rw [e2, e1, Nat.mul_comm 2, Nat.mul_assoc]
    congr 1
    omega
  have hr : rungOf s (m * 2 ^ (106 - m.log2 - 51)) (i + 51 - (106 - m.log2 : Nat) - 1) = k - B := by
    apply Nat.le_antisymm
    · exact rungOf_le _ _ _ hnz (106 - m.log2) (by omega) _ (by rw [hN]; omega)
    · exact le_rungOf _ _ _ hnz (106 - m.log2) (by omega) _ (by rw [hN]; omega)
  refine ⟨_, rfl, ?_⟩
  show Num (double.nearest s (m * 2 ^ (106 - m.log2 - 51)) (i + 51 - (106 - m.log2 : Nat) - 1)) s (k - B)
  rw [nearest_eq _ _ _ hnz, hr, ir_eq, Nat.min_eq_left (by omega)]
  exact word_num _ _ (by omega)

/-! ### 'fallsShort', 'compareRounded', 'side' as plain functions of the words -/
/-- x < b * (1 - 1e-9), as float64 has it; false where the product is a NaN. -/
def fs (x b : Nat) : Bool := match double.mul b C with
  | some y => double.order x y == some .lt
  | none => false
/-- The side of the deadline: E the expected completion, F the time to the deadline. -/
def sideOf (E F : Nat) : Int := if fs E F then 1 else if fs F E then 2 else 0

theorem side_range (E F : Nat) : sideOf E F = 0 ∨ sideOf E F = 1 ∨ sideOf E F = 2 := by
  unfold sideOf; split
  · exact Or.inr (Or.inl rfl)
  · split
    · exact Or.inr (Or.inr rfl)
    · exact Or.inl rfl

theorem fs_is {x b : Nat} {a c : Int} (hx : Is x a) (hb : Is b c) : ∃ d, fs x b = decide (a < d) ∧ (0 ≤ c → 0 ≤ d ∧ d ≤ c) ∧ (c ≤ 0 → c ≤ d ∧ d ≤ 0) ∧
    (0 < c → 0 < d) ∧ (c < 0 → d < 0) ∧ (U ≤ c → c < 2 * d) ∧ (c ≤ -U → 2 * d < c) := by
  obtain ⟨y, d, e, hy, hd⟩ := mulC_is hb
  refine ⟨d, ?_, hd⟩
  unfold fs
  rw [e]
  exact lt_is hx hy

theorem word_cases (x : Nat) : (∃ a, Is x a) ∨ (∃ s, double.read x = .infinity s) ∨ (∃ s t, double.read x = .nan s t) := by
  by_cases h : x % SW < IR
  · exact Or.inl ⟨_, _, _, num_of x h, rfl⟩
  · rw [read_cases, if_neg (by have := B_num; rw [ir_num] at h; omega), if_neg h]
    by_cases h' : x % SW = IR
    · rw [if_pos h']; exact Or.inr (Or.inl ⟨_, rfl⟩)
    · rw [if_neg h']; exact Or.inr (Or.inr ⟨_, _, rfl⟩)

theorem is_read {x : Nat} {a : Int} (h : Is x a) : ∃ s m i, double.read x = .number s m i := by
  obtain ⟨s, k, ⟨m, i, r, _⟩, _⟩ := h
  exact ⟨s, m, i, r⟩

theorem order_nan_left {x y : Nat} {s : Bool} {t : Nat} (h : double.read x = .nan s t) : double.order x y = none := by
  unfold Format.order; rw [h]; cases double.read y <;> rfl
theorem order_nan_right {x y : Nat} {s : Bool} {t : Nat} (h : double.read y = .nan s t) : double.order x y = none := by
  unfold Format.order; rw [h]; cases double.read x <;> rfl
theorem mul_nan {x : Nat} {s : Bool} {t : Nat} (h : double.read x = .nan s t) : double.mul x C = none := by
  unfold Format.mul; rw [h, read_C]; rfl
theorem mulC_inf {x : Nat} {s : Bool} (h : double.read x = .infinity s) : ∃ y, double.mul x C = some y ∧ double.read y = .infinity s := by
  refine ⟨double.word s double.infRung, ?_, word_inf s⟩
  unfold Format.mul; rw [h, read_C]; cases s <;> rfl
theorem order_inf_is {x y : Nat} {s : Bool} {b : Int} (h : double.read x = .infinity s) (hy : Is y b) : double.order x y = some (if s then .lt else .gt) := by
  obtain ⟨t, m, i, r⟩ := is_read hy
  unfold Format.order; rw [h, r]; rfl
theorem order_is_inf {x y : Nat} {s : Bool} {b : Int} (h : double.read y = .infinity s) (hx : Is x b) : double.order x y = some (if s then .gt else .lt) := by
  obtain ⟨t, m, i, r⟩ := is_read hx
  unfold Format.order; rw [h, r]; rfl
theorem order_inf_self {x : Nat} {s : Bool} (h : double.read x = .infinity s) : double.order x x = some .eq := by
  unfold Format.order; rw [h]; cases s <;> rfl
theorem order_is_self {x : Nat} {a : Int} (h : Is x a) : double.order x x = some .eq := by
  rw [order_is h h]; simp

/-- The product is none at a NaN alone (of the words that stand for something). -/
theorem mulC_some_of {x : Nat} (h : double.order x x = some .eq) : ∃ y, double.mul x C = some y := by
  rcases word_cases x with ⟨a, ha⟩ | ⟨s, hs⟩ | ⟨s, t, hn⟩
  · obtain ⟨y, _, e, _⟩ := mulC_is ha; exact ⟨y, e⟩
  · obtain ⟨y, e, _⟩ := mulC_inf hs; exact ⟨y, e⟩
  · rw [order_nan_left hn] at h; cases h

end Go.Proofs.Qxb6605639a.Fl
