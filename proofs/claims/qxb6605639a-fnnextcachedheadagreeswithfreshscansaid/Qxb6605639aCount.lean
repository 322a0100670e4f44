/-
  PLAIN: how many distinct free machines the first n places of an order name. No Go program in sight.
-/
import Derived.Test.Qxb6605639aScan
namespace Go.Proofs.Qxb6605639a.Sc

/-- Does one of the first n places name machine x? -/
def seenIn (O : Nat → Nat) : Nat → Nat → Bool
  | 0, _ => false
  | n + 1, x => seenIn O n x || O n == x

/-- The distinct free machines among the first n places. -/
def dc (O : Nat → Nat) (F : Nat → Bool) : Nat → Nat
  | 0 => 0
  | n + 1 => dc O F n + if F (O n) && !(seenIn O n (O n)) then 1 else 0

theorem seenIn_succ (O : Nat → Nat) (n x : Nat) : seenIn O (n + 1) x = (seenIn O n x || O n == x) := rfl
theorem dc_succ (O : Nat → Nat) (F : Nat → Bool) (n : Nat) : dc O F (n + 1) = dc O F n + if F (O n) && !(seenIn O n (O n)) then 1 else 0 := rfl

theorem seenIn_of {O : Nat → Nat} {n h : Nat} (hh : h < n) : seenIn O n (O h) = true := by
  induction n with
  | zero => omega
  | succ n ih =>
    rw [seenIn_succ]
    by_cases e : h = n
    · subst e; simp
    · rw [ih (by omega)]; rfl

/-- F without machine m. -/
def drop (F : Nat → Bool) (m : Nat) : Nat → Bool := fun x => F x && !(x == m)

theorem drop_at (F : Nat → Bool) (m : Nat) : drop F m m = false := by simp [drop]
theorem drop_ne (F : Nat → Bool) (m x : Nat) (h : x ≠ m) : drop F m x = F x := by simp [drop, h]
theorem drop_false {F : Nat → Bool} {m x : Nat} (h : F x = false) : drop F m x = false := by simp [drop, h]

theorem dc_drop (O : Nat → Nat) (F : Nat → Bool) (m : Nat) (hm : F m = true) (n : Nat) : dc O F n = dc O (drop F m) n + if seenIn O n m then 1 else 0 := by
  induction n with
  | zero => rfl
  | succ n ih =>
    rw [dc_succ, dc_succ, seenIn_succ, ih]
    by_cases e : O n = m
    · rw [e, hm, drop_at]
      cases seenIn O n m <;> simp
    · rw [drop_ne F m _ e]
      have hb : (O n == m) = false := by simp [e]
      rw [hb, Bool.or_false]
      omega

theorem dc_take (O : Nat → Nat) (F : Nat → Bool) (n h : Nat) (hh : h < n) (hf : F (O h) = true) : dc O F n = dc O (drop F (O h)) n + 1 := by
  rw [dc_drop O F (O h) hf n, seenIn_of hh]; rfl

theorem dc_none (O : Nat → Nat) (F : Nat → Bool) (n : Nat) (h : ∀ j, j < n → F (O j) = false) : dc O F n = 0 := by
  induction n with
  | zero => rfl
  | succ n ih => rw [dc_succ, ih (fun j hj => h j (by omega)), h n (by omega)]; rfl

theorem dc_le (O : Nat → Nat) (F : Nat → Bool) (n : Nat) : dc O F n ≤ n := by
  induction n with
  | zero => exact Nat.le_refl _
  | succ n ih => rw [dc_succ]; split <;> omega

/-- Where a machine is not free, or was seen, the count stays; else it grows by one. -/
theorem dc_yes {O : Nat → Nat} {F : Nat → Bool} {n : Nat} (h1 : F (O n) = true) (h2 : seenIn O n (O n) = false) : dc O F (n + 1) = dc O F n + 1 := by
  rw [dc_succ, h1, h2]; rfl
theorem dc_no {O : Nat → Nat} {F : Nat → Bool} {n : Nat} (h : F (O n) = false ∨ seenIn O n (O n) = true) : dc O F (n + 1) = dc O F n := by
  rw [dc_succ]
  rcases h with h | h <;> rw [h] <;> simp

/-- What the program's 'seen' holds: the free ones among those that were named. -/
def mark (O : Nat → Nat) (F : Nat → Bool) (n x : Nat) : Bool := F x && seenIn O n x
theorem mark_zero (O : Nat → Nat) (F : Nat → Bool) (x : Nat) : mark O F 0 x = false := by simp [mark, seenIn]
theorem mark_hit {O : Nat → Nat} {F : Nat → Bool} {n : Nat} (h : F (O n) = true) : mark O F (n + 1) (O n) = true := by
  simp [mark, h, seenIn]
theorem mark_ne {O : Nat → Nat} {F : Nat → Bool} {n x : Nat} (h : x ≠ O n) : mark O F (n + 1) x = mark O F n x := by
  have : (O n == x) = false := by simp; exact fun e => h e.symm
  simp [mark, seenIn, this]
theorem mark_stay {O : Nat → Nat} {F : Nat → Bool} {n x : Nat} (h : F (O n) = false ∨ seenIn O n (O n) = true) : mark O F (n + 1) x = mark O F n x := by
  by_cases e : x = O n
  · subst e
    rcases h with h | h <;> simp [mark, seenIn, h]
  · exact mark_ne e

end Go.Proofs.Qxb6605639a.Sc
