/-
  PLAIN: float64 by rungs. 'V k' is the magnitude of rung k in units of 2^-1074. No Go program in sight.
-/
import Derived.Laws.FloatArith
namespace Go.Proofs.Qxb6605639a.Fl
open Ieee

theorem pow_split (a b : Nat) (h : a ≤ b) : 2 ^ b = 2 ^ a * 2 ^ (b - a) := by
  rw [← Nat.pow_add]; congr 1; omega

/-- The unit of a binade. -/
def B : Nat := 2 ^ 52

theorem B_eq : B = 2 ^ 52 := by unfold B; rfl
theorem B_pos : 0 < B := Nat.two_pow_pos _

/-- The magnitude of a rung in units of the least place. -/
def V (k : Nat) : Nat := if k < B then k else (B + k % B) * 2 ^ (k / B - 1)

theorem V_small {k : Nat} (h : k < B) : V k = k := by unfold V; rw [if_pos h]

theorem V_big (q kept : Nat) (h1 : B ≤ kept) (h2 : kept < 2 * B) : V (q * B + kept) = kept * 2 ^ q := by
  have hb := B_pos
  have e1 : (q * B + kept) % B = kept - B := by
    have : q * B + kept = (kept - B) + B * (q + 1) := by rw [Nat.mul_add, Nat.mul_comm q B]; omega
    rw [this, Nat.add_mul_mod_self_left, Nat.mod_eq_of_lt (by omega)]
  have e2 : (q * B + kept) / B = q + 1 := by
    have : q * B + kept = (kept - B) + B * (q + 1) := by rw [Nat.mul_add, Nat.mul_comm q B]; omega
    rw [this, Nat.add_mul_div_left _ _ hb, Nat.div_eq_of_lt (by omega)]; omega
  unfold V
  rw [if_neg (by omega), e1, e2, show B + (kept - B) = kept from by omega, show q + 1 - 1 = q from rfl]

/-- Every rung is 'kept * 2 ^ q' at its own place. -/
theorem V_form (k : Nat) : ∃ q kept, k = q * B + kept ∧ kept < 2 * B ∧ (0 < q → B ≤ kept) ∧ V k = kept * 2 ^ q := by
  have hb := B_pos
  by_cases h : k < B
  · exact ⟨0, k, by omega, by omega, by omega, by rw [V_small h]; omega⟩
  · have hd : 1 ≤ k / B := (Nat.le_div_iff_mul_le hb).2 (by omega)
    have hm := Nat.div_add_mod k B
    have hlt := Nat.mod_lt k hb
    have e : k = (k / B - 1) * B + (B + k % B) := by
      have : B * (k / B) = (k / B - 1) * B + B := by
        rw [Nat.mul_comm, Nat.sub_mul]
        have : B ≤ k / B * B := by
          calc B = 1 * B := by omega
            _ ≤ k / B * B := Nat.mul_le_mul_right _ hd
        omega
      omega
    refine ⟨k / B - 1, B + k % B, e, by omega, fun _ => by omega, ?_⟩
    rw [e, V_big _ _ (by omega) (by omega)]
    rw [← e]

theorem V_at (q kept : Nat) (h1 : kept ≤ 2 * B) (h2 : 0 < q → B ≤ kept) : V (q * B + kept) = kept * 2 ^ q := by
  have hb := B_pos
  by_cases h : kept = 2 * B
  · subst h
    have e : q * B + 2 * B = (q + 1) * B + B := by rw [Nat.add_mul]; omega
    rw [e, V_big _ _ (Nat.le_refl _) (by omega), Nat.pow_succ, Nat.mul_comm (2 ^ q), ← Nat.mul_assoc, Nat.mul_comm B 2]
  · by_cases h' : B ≤ kept
    · exact V_big q kept h' (by omega)
    · have : q = 0 := by omega
      subst this
      rw [Nat.zero_mul, Nat.zero_add, V_small (by omega)]; omega

theorem V_step (k : Nat) : V k < V (k + 1) := by
  have hb := B_pos
  obtain ⟨q, kept, e, h1, h2, hv⟩ := V_form k
  have e2 : k + 1 = q * B + (kept + 1) := by omega
  rw [hv, e2, V_at q (kept + 1) (by omega) (by omega)]
  exact Nat.mul_lt_mul_of_pos_right (by omega) (Nat.two_pow_pos _)

theorem V_mono {a b : Nat} (h : a < b) : V a < V b := by
  induction b with
  | zero => omega
  | succ n ih =>
    by_cases e : a = n
    · subst e; exact V_step a
    · exact Nat.lt_trans (ih (by omega)) (V_step n)

theorem V_le {a b : Nat} : V a ≤ V b ↔ a ≤ b := by
  constructor
  · intro h; apply Nat.le_of_not_lt; intro h'; have := V_mono h'; omega
  · intro h; rcases Nat.lt_or_eq_of_le h with h | h
    · exact Nat.le_of_lt (V_mono h)
    · rw [h]; exact Nat.le_refl _

theorem V_zero : V 0 = 0 := V_small B_pos
theorem V_pos {k : Nat} (h : 0 < k) : 0 < V k := by have := V_mono h; rw [V_zero] at this; exact this

/-! ### 'cut' to the nearest is between the whole numbers that the number is between -/
theorem log2_bounds {n : Nat} (h : n ≠ 0) : 2 ^ n.log2 ≤ n ∧ n < 2 ^ (n.log2 + 1) :=
  ⟨Nat.log2_self_le h, Nat.lt_log2_self⟩

theorem cut_le (neg : Bool) (n drop K : Nat) (h : n ≤ K * 2 ^ drop) : Toward.even.cut neg n drop ≤ K := by
  unfold Toward.cut
  simp only [Nat.one_shiftLeft]
  by_cases hd : drop ≤ n.log2 + 2
  · rw [Nat.min_eq_left hd]
    have hp : 0 < 2 ^ drop := Nat.two_pow_pos _
    by_cases hl : n / 2 ^ drop < K
    · have := Bool.toNat_le (decide (2 ^ drop < 2 * (n % 2 ^ drop)) || (2 ^ drop == 2 * (n % 2 ^ drop) && n / 2 ^ drop % 2 == 1))
      omega
    · have h1 : K * 2 ^ drop ≤ n := (Nat.le_div_iff_mul_le hp).1 (by omega)
      have h2 : n = K * 2 ^ drop := by omega
      have h3 : n % 2 ^ drop = 0 := by rw [h2]; exact Nat.mul_mod_left ..
      have h4 : n / 2 ^ drop = K := by rw [h2]; exact Nat.mul_div_cancel _ hp
      rw [h3, h4]
      have h5 : (2 ^ drop == 2 * 0) = false := by rw [beq_eq_false_iff_ne]; omega
      simp [h5]
  · rw [Nat.min_eq_right (by omega)]
    have hn : n < 2 ^ (n.log2 + 1) := Nat.lt_log2_self
    have e : 2 ^ (n.log2 + 2) = 2 * 2 ^ (n.log2 + 1) := by rw [Nat.pow_succ, Nat.mul_comm]
    rw [Nat.div_eq_of_lt (by omega), Nat.mod_eq_of_lt (by omega)]
    have h1 : decide (2 ^ (n.log2 + 2) < 2 * n) = false := by rw [decide_eq_false_iff_not]; omega
    simp [h1]

theorem le_cut (neg : Bool) (n drop K : Nat) (h : K * 2 ^ drop ≤ n) : K ≤ Toward.even.cut neg n drop := by
  unfold Toward.cut
  simp only [Nat.one_shiftLeft]
  by_cases hd : drop ≤ n.log2 + 2
  · rw [Nat.min_eq_left hd]
    have hp : 0 < 2 ^ drop := Nat.two_pow_pos _
    have := (Nat.le_div_iff_mul_le hp).2 h
    omega
  · have hn : n < 2 ^ (n.log2 + 1) := Nat.lt_log2_self
    have : 2 ^ (n.log2 + 1) ≤ 2 ^ drop := Nat.pow_le_pow_right (by omega) (by omega)
    have hK : K = 0 := by
      cases K with
      | zero => rfl
      | succ j =>
        have : 1 * 2 ^ drop ≤ (j + 1) * 2 ^ drop := Nat.mul_le_mul_right _ (by omega)
        omega
    rw [hK]; exact Nat.zero_le _

/-! ### The nearest rung -/
def LP : Int := -1074
theorem lp_eq : double.leastPlace = LP := by decide
theorem binade_eq : double.binade = B := rfl

/-- The rung that 'nearest' comes to, ahead of the ceiling. -/
def rungOf (neg : Bool) (mag : Nat) (place : Int) : Nat :=
  let last := max (place + mag.log2 - 52) LP
  (last - LP).toNat * B + Toward.even.cut neg (mag <<< (place - last).toNat) (last - place).toNat

theorem nearest_eq (neg : Bool) (mag : Nat) (place : Int) (h : mag ≠ 0) :
    double.nearest neg mag place = double.word neg (min (rungOf neg mag place) double.infRung) := by
  unfold Format.nearest
  rw [if_neg h]
  rfl

/-- What is known of the rung: its place q, the digits kept; how the exact number stands to whole multiples of 2^q. -/
theorem rungOf_form (neg : Bool) (mag : Nat) (place : Int) (h : mag ≠ 0) (t : Nat) (ht : 0 ≤ place - LP + t) :
    ∃ q kept, rungOf neg mag place = q * B + kept ∧ kept ≤ 2 * B ∧ (0 < q → B ≤ kept) ∧
      (0 < q → B * 2 ^ (q + t) ≤ mag * 2 ^ (place - LP + t).toNat) ∧
      (∀ K, mag * 2 ^ (place - LP + t).toNat ≤ K * 2 ^ (q + t) → kept ≤ K) ∧
      (∀ K, K * 2 ^ (q + t) ≤ mag * 2 ^ (place - LP + t).toNat → K ≤ kept) := by
  obtain ⟨l1, l2⟩ := log2_bounds h
  unfold rungOf
  dsimp only
  generalize hL : mag.log2 = L at *
  generalize hlast : max (place + (L : Int) - 52) LP = last
  have hlast1 : LP ≤ last := by omega
  have hlast2 : place + (L : Int) - 52 ≤ last := by omega
  have hlast3 : LP < last → last = place + (L : Int) - 52 := by omega
  clear hlast
  generalize hq : (last - LP).toNat = q
  generalize hu : (place - last).toNat = up
  generalize hd : (last - place).toNat = dr
  generalize hN : (place - LP + t).toNat = s
  have hs : s + dr = up + (q + t) := by omega
  simp only [Nat.shiftLeft_eq]
  -- N * 2^dr = mag' * 2^(q+t)
  have key : mag * 2 ^ s * 2 ^ dr = mag * 2 ^ up * 2 ^ (q + t) := by
    rw [Nat.mul_assoc, Nat.mul_assoc, ← Nat.pow_add, ← Nat.pow_add, hs]
  have pd : 0 < 2 ^ dr := Nat.two_pow_pos _
  have pq : 0 < 2 ^ (q + t) := Nat.two_pow_pos _
  have toL : ∀ K, mag * 2 ^ s ≤ K * 2 ^ (q + t) → mag * 2 ^ up ≤ K * 2 ^ dr := by
    intro K hK
    apply Nat.le_of_mul_le_mul_right _ pq
    rw [← key, Nat.mul_right_comm K]
    exact Nat.mul_le_mul_right _ hK
  have toR : ∀ K, K * 2 ^ (q + t) ≤ mag * 2 ^ s → K * 2 ^ dr ≤ mag * 2 ^ up := by
    intro K hK
    apply Nat.le_of_mul_le_mul_right _ pq
    rw [← key, Nat.mul_right_comm K]
    exact Nat.mul_le_mul_right _ hK
  -- the number's size
  have hup : mag * 2 ^ up ≤ 2 * B * 2 ^ dr := by
    have e : 2 * B = 2 ^ 53 := by decide
    rw [e, ← Nat.pow_add]
    have : 2 ^ (L + 1) * 2 ^ up ≤ 2 ^ (53 + dr) := by
      rw [← Nat.pow_add]; exact Nat.pow_le_pow_right (by omega) (by omega)
    exact Nat.le_trans (Nat.mul_le_mul_right _ (Nat.le_of_lt l2)) this
  have hlo : 0 < q → B * 2 ^ dr ≤ mag * 2 ^ up := by
    intro hq0
    have := hlast3 (by omega)
    rw [B_eq, ← Nat.pow_add]
    have : 2 ^ (52 + dr) ≤ 2 ^ L * 2 ^ up := by
      rw [← Nat.pow_add]; exact Nat.pow_le_pow_right (by omega) (by omega)
    exact Nat.le_trans this (Nat.mul_le_mul_right _ l1)
  have c1 := cut_le neg (mag * 2 ^ up) dr (2 * B) hup
  have c2 : 0 < q → B ≤ Toward.even.cut neg (mag * 2 ^ up) dr := fun h0 => le_cut neg _ _ _ (hlo h0)
  have c3 : ∀ K, mag * 2 ^ s ≤ K * 2 ^ (q + t) → Toward.even.cut neg (mag * 2 ^ up) dr ≤ K := fun K hK => cut_le neg _ _ _ (toL K hK)
  have c4 : ∀ K, K * 2 ^ (q + t) ≤ mag * 2 ^ s → K ≤ Toward.even.cut neg (mag * 2 ^ up) dr := fun K hK => le_cut neg _ _ _ (toR K hK)
  generalize Toward.even.cut neg (mag * 2 ^ up) dr = kept at *
  refine ⟨q, kept, ?_, c1, c2, ?_, c3, c4⟩
  · exact Eq.refl _
  intro h0
  apply Nat.le_of_mul_le_mul_right _ pd
  rw [key, Nat.mul_right_comm B]
  exact Nat.mul_le_mul_right _ (hlo h0)

theorem rungOf_le (neg : Bool) (mag : Nat) (place : Int) (h : mag ≠ 0) (t : Nat) (ht : 0 ≤ place - LP + t) (k : Nat)
    (hv : mag * 2 ^ (place - LP + t).toNat ≤ V k * 2 ^ t) : rungOf neg mag place ≤ k := by
  obtain ⟨q, kept, e, h1, h2, h3, h4, h5⟩ := rungOf_form neg mag place h t ht
  obtain ⟨e', K, ek, g1, g2, hV⟩ := V_form k
  rw [← V_le, e, V_at q kept h1 h2, hV]
  rw [hV] at hv
  by_cases hc : q ≤ e'
  · have hp : K * 2 ^ e' = K * 2 ^ (e' - q) * 2 ^ q := by
      rw [pow_split q e' hc, Nat.mul_assoc, Nat.mul_comm (2 ^ q)]
    have := h4 (K * 2 ^ (e' - q)) (by rw [Nat.pow_add, ← Nat.mul_assoc, ← hp]; exact hv)
    rw [hp]; exact Nat.mul_le_mul_right _ this
  · exfalso
    have h3' := h3 (by omega)
    have p1 : K * 2 ^ e' < B * 2 ^ q := by
      have : K * 2 ^ e' < 2 * B * 2 ^ e' := Nat.mul_lt_mul_of_pos_right g1 (Nat.two_pow_pos _)
      have : 2 * B * 2 ^ e' ≤ B * 2 ^ q := by
        rw [Nat.mul_comm 2 B, Nat.mul_assoc, Nat.mul_comm 2 (2 ^ e'), ← Nat.pow_succ]
        exact Nat.mul_le_mul_left _ (Nat.pow_le_pow_right (by omega) (by omega))
      omega
    have p2 : K * 2 ^ e' * 2 ^ t < B * 2 ^ q * 2 ^ t := Nat.mul_lt_mul_of_pos_right p1 (Nat.two_pow_pos _)
    rw [Nat.pow_add, ← Nat.mul_assoc] at h3'
    omega

theorem le_rungOf (neg : Bool) (mag : Nat) (place : Int) (h : mag ≠ 0) (t : Nat) (ht : 0 ≤ place - LP + t) (k : Nat)
    (hv : V k * 2 ^ t ≤ mag * 2 ^ (place - LP + t).toNat) : k ≤ rungOf neg mag place := by
  obtain ⟨q, kept, e, h1, h2, h3, h4, h5⟩ := rungOf_form neg mag place h t ht
  obtain ⟨e', K, ek, g1, g2, hV⟩ := V_form k
  rw [← V_le, e, V_at q kept h1 h2, hV]
  rw [hV] at hv
  by_cases hc : q ≤ e'
  · have hp : K * 2 ^ e' = K * 2 ^ (e' - q) * 2 ^ q := by
      rw [pow_split q e' hc, Nat.mul_assoc, Nat.mul_comm (2 ^ q)]
    have := h5 (K * 2 ^ (e' - q)) (by rw [Nat.pow_add, ← Nat.mul_assoc, ← hp]; exact hv)
    rw [hp]; exact Nat.mul_le_mul_right _ this
  · have : K * 2 ^ e' < 2 * B * 2 ^ e' := Nat.mul_lt_mul_of_pos_right g1 (Nat.two_pow_pos _)
    have : 2 * B * 2 ^ e' ≤ B * 2 ^ q := by
      rw [Nat.mul_comm 2 B, Nat.mul_assoc, Nat.mul_comm 2 (2 ^ e'), ← Nat.pow_succ]
      exact Nat.mul_le_mul_left _ (Nat.pow_le_pow_right (by omega) (by omega))
    have : B * 2 ^ q ≤ kept * 2 ^ q := Nat.mul_le_mul_right _ (h2 (by omega))
    omega

end Go.Proofs.Qxb6605639a.Fl
