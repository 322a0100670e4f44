/-
  PLAIN: the first index from s on, below n, at which P holds (or where the scan ends). No Go program in sight.
-/
namespace Go.Proofs.Qxb6605639a.Sc

def scanIn (P : Nat → Bool) : Nat → Nat → Nat
  | 0, s => s
  | m + 1, s => if P s then s else scanIn P m (s + 1)

/-- From s on, below n; s itself where it is not below n. -/
def scan (P : Nat → Bool) (n s : Nat) : Nat := scanIn P (n - s) s

theorem scan_stop {P : Nat → Bool} {n s : Nat} (h : n ≤ s) : scan P n s = s := by
  unfold scan; rw [show n - s = 0 from by omega]; rfl
theorem scan_hit {P : Nat → Bool} {n s : Nat} (h : s < n) (hp : P s = true) : scan P n s = s := by
  unfold scan; rw [show n - s = (n - s - 1) + 1 from by omega]; simp [scanIn, hp]
theorem scan_miss {P : Nat → Bool} {n s : Nat} (h : s < n) (hp : P s = false) : scan P n s = scan P n (s + 1) := by
  unfold scan; rw [show n - s = (n - (s + 1)) + 1 from by omega]; simp [scanIn, hp]

/-- A scan over a stretch of misses. -/
theorem scan_skip {P : Nat → Bool} {n s : Nat} (d : Nat) (hn : s + d ≤ n) (hp : ∀ j, s ≤ j → j < s + d → P j = false) : scan P n s = scan P n (s + d) := by
  induction d with
  | zero => rfl
  | succ d ih =>
    rw [ih (by omega) (fun j h1 h2 => hp j h1 (by omega)), scan_miss (by omega) (hp _ (by omega) (by omega))]; rfl

theorem scan_ge (P : Nat → Bool) (n s : Nat) : s ≤ scan P n s := by
  unfold scan
  generalize n - s = m
  induction m generalizing s with
  | zero => exact Nat.le_refl _
  | succ m ih =>
    unfold scanIn; split
    · exact Nat.le_refl _
    · have := ih (s + 1); omega
theorem scan_le {P : Nat → Bool} {n s : Nat} (h : s ≤ n) : scan P n s ≤ n := by
  unfold scan
  generalize hm : n - s = m
  induction m generalizing s with
  | zero => show s ≤ n; exact h
  | succ m ih =>
    unfold scanIn; split
    · exact h
    · exact ih (by omega) (by omega)
theorem scan_at {P : Nat → Bool} {n s : Nat} (h : scan P n s < n) : P (scan P n s) = true := by
  unfold scan at h ⊢
  generalize hm : n - s = m at *
  induction m generalizing s with
  | zero => exact absurd h (by show ¬ s < n; omega)
  | succ m ih =>
    unfold scanIn at h ⊢
    by_cases hp : P s = true
    · rw [if_pos hp]; exact hp
    · rw [if_neg hp] at h ⊢; exact ih (by omega) h
theorem scan_before {P : Nat → Bool} {n s j : Nat} (h1 : s ≤ j) (h2 : j < scan P n s) : P j = false := by
  unfold scan at h2
  generalize n - s = m at *
  induction m generalizing s with
  | zero => exact absurd h2 (by show ¬ j < s; omega)
  | succ m ih =>
    unfold scanIn at h2
    by_cases hp : P s = true
    · rw [if_pos hp] at h2; omega
    · rw [if_neg hp] at h2
      by_cases e : j = s
      · subst e; simpa using hp
      · exact ih (by omega) h2
theorem scan_eq {P : Nat → Bool} {n s h : Nat} (h1 : s ≤ h) (h2 : h ≤ n) (h3 : ∀ j, s ≤ j → j < h → P j = false) (h4 : h < n → P h = true) : scan P n s = h := by
  rw [scan_skip (P := P) (n := n) (s := s) (h - s) (by omega) (fun j a b => h3 j a (by omega)), show s + (h - s) = h from by omega]
  by_cases e : h < n
  · exact scan_hit e (h4 e)
  · exact scan_stop (by omega)

end Go.Proofs.Qxb6605639a.Sc
