/-
  PLAIN: maps as lists of pairs with distinct keys; what a list of pairs builds; how many distinct keys it has. No Go program in sight.
-/
namespace Go.Proofs.Qxb6605665a.Mp
set_option linter.unusedSectionVars false
variable {K V : Type} [DecidableEq K]

def lk : List (K × V) → K → Option V
  | [], _ => none
  | (a, v) :: r, k => if a = k then some v else lk r k
def ins : List (K × V) → K → V → List (K × V)
  | [], k, v => [(k, v)]
  | (a, u) :: r, k, v => if a = k then (k, v) :: r else (a, u) :: ins r k v
def rm : List (K × V) → K → List (K × V)
  | [], _ => []
  | (a, u) :: r, k => if a = k then r else (a, u) :: rm r k
/-- The keys are distinct. -/
def KD : List (K × V) → Prop
  | [] => True
  | (a, _) :: r => lk r a = none ∧ KD r
/-- How many keys meet p. -/
def cnt : List (K × V) → (K → Bool) → Nat
  | [], _ => 0
  | (a, _) :: r, p => cnt r p + if p a then 1 else 0

theorem lk_cons (a : K) (v : V) (r : List (K × V)) (k : K) : lk ((a, v) :: r) k = if a = k then some v else lk r k := rfl
theorem ins_cons (a : K) (u : V) (r : List (K × V)) (k : K) (v : V) : ins ((a, u) :: r) k v = if a = k then (k, v) :: r else (a, u) :: ins r k v := rfl
theorem rm_cons (a : K) (u : V) (r : List (K × V)) (k : K) : rm ((a, u) :: r) k = if a = k then r else (a, u) :: rm r k := rfl
theorem cnt_cons (a : K) (u : V) (r : List (K × V)) (p : K → Bool) : cnt ((a, u) :: r) p = cnt r p + if p a then 1 else 0 := rfl
theorem KD_cons (a : K) (u : V) (r : List (K × V)) : KD ((a, u) :: r) = (lk r a = none ∧ KD r) := rfl

theorem lk_ins (S : List (K × V)) (k : K) (v : V) (k' : K) : lk (ins S k v) k' = if k' = k then some v else lk S k' := by
  induction S with
  | nil =>
    show (if k = k' then some v else none) = _
    by_cases h : k' = k
    · rw [if_pos h, if_pos h.symm]
    · rw [if_neg h, if_neg (fun e => h e.symm)]; rfl
  | cons e r ih =>
    obtain ⟨a, u⟩ := e
    rw [ins_cons]
    by_cases h : a = k
    · subst h
      rw [if_pos rfl, lk_cons, lk_cons]
      by_cases h' : k' = a
      · rw [if_pos h', if_pos h'.symm]
      · rw [if_neg h', if_neg (fun e => h' e.symm), if_neg (fun e => h' e.symm)]
    · rw [if_neg h, lk_cons, lk_cons, ih]
      by_cases h' : a = k'
      · subst h'; rw [if_pos rfl, if_pos rfl, if_neg h]
      · rw [if_neg h', if_neg h']

theorem lk_rm_other (S : List (K × V)) (k k' : K) (h : k' ≠ k) : lk (rm S k) k' = lk S k' := by
  induction S with
  | nil => rfl
  | cons e r ih =>
    obtain ⟨a, u⟩ := e
    rw [rm_cons]
    by_cases h1 : a = k
    · rw [if_pos h1, lk_cons, if_neg (fun e => h (e.symm.trans h1))]
    · rw [if_neg h1, lk_cons, lk_cons, ih]
theorem lk_rm_same (S : List (K × V)) (k : K) (hS : KD S) : lk (rm S k) k = none := by
  induction S with
  | nil => rfl
  | cons e r ih =>
    obtain ⟨a, u⟩ := e
    rw [KD_cons] at hS
    rw [rm_cons]
    by_cases h1 : a = k
    · rw [if_pos h1, ← h1]; exact hS.1
    · rw [if_neg h1, lk_cons, if_neg h1]; exact ih hS.2

theorem KD_ins (S : List (K × V)) (k : K) (v : V) (hS : KD S) : KD (ins S k v) := by
  induction S with
  | nil => exact ⟨rfl, trivial⟩
  | cons e r ih =>
    obtain ⟨a, u⟩ := e
    rw [KD_cons] at hS
    rw [ins_cons]
    by_cases h : a = k
    · rw [if_pos h, KD_cons, ← h]; exact hS
    · rw [if_neg h, KD_cons, lk_ins, if_neg h]; exact ⟨hS.1, ih hS.2⟩
theorem KD_rm (S : List (K × V)) (k : K) (hS : KD S) : KD (rm S k) := by
  induction S with
  | nil => trivial
  | cons e r ih =>
    obtain ⟨a, u⟩ := e
    rw [KD_cons] at hS
    rw [rm_cons]
    by_cases h : a = k
    · rw [if_pos h]; exact hS.2
    · rw [if_neg h, KD_cons, lk_rm_other r k a h]; exact ⟨hS.1, ih hS.2⟩

theorem cnt_congr (S : List (K × V)) (p q : K → Bool) (h : ∀ x, p x = q x) : cnt S p = cnt S q := by
  rw [show p = q from funext h]
/-- A key that is not there does not count. -/
theorem cnt_absent (S : List (K × V)) (k : K) (p : K → Bool) (h : lk S k = none) : cnt S (fun x => p x && decide (x ≠ k)) = cnt S p := by
  induction S with
  | nil => rfl
  | cons e r ih =>
    obtain ⟨a, u⟩ := e
    rw [lk_cons] at h
    by_cases h1 : a = k
    · rw [if_pos h1] at h; cases h
    · rw [if_neg h1] at h
      rw [cnt_cons, cnt_cons, ih h]
      have : decide (a ≠ k) = true := by simp [h1]
      rw [this, Bool.and_true]
theorem cnt_ins (S : List (K × V)) (k : K) (v : V) (p : K → Bool) (hS : KD S) : cnt (ins S k v) p = cnt S (fun x => p x && decide (x ≠ k)) + if p k then 1 else 0 := by
  induction S with
  | nil => show 0 + _ = 0 + _; rfl
  | cons e r ih =>
    obtain ⟨a, u⟩ := e
    rw [KD_cons] at hS
    rw [ins_cons, cnt_cons]
    by_cases h : a = k
    · subst h
      rw [if_pos rfl, cnt_cons, cnt_absent r a p hS.1]
      simp
    · have hd : decide (a ≠ k) = true := by simp [h]
      rw [if_neg h, cnt_cons, ih hS.2, hd, Bool.and_true]
      omega
theorem cnt_rm (S : List (K × V)) (k : K) (p : K → Bool) (hS : KD S) : cnt (rm S k) p = cnt S (fun x => p x && decide (x ≠ k)) := by
  induction S with
  | nil => rfl
  | cons e r ih =>
    obtain ⟨a, u⟩ := e
    rw [KD_cons] at hS
    rw [rm_cons, cnt_cons]
    by_cases h : a = k
    · subst h
      rw [if_pos rfl, cnt_absent r a p hS.1]
      simp
    · have hd : decide (a ≠ k) = true := by simp [h]
      rw [if_neg h, cnt_cons, ih hS.2, hd, Bool.and_true]
theorem length_cnt (S : List (K × V)) : S.length = cnt S (fun _ => true) := by
  induction S with
  | nil => rfl
  | cons e r ih => obtain ⟨a, u⟩ := e; rw [cnt_cons, ← ih]; rfl
theorem cnt_split (S : List (K × V)) (k : K) (hS : KD S) : cnt S (fun _ => true) = cnt S (fun x => decide (x ≠ k)) + if (lk S k).isSome then 1 else 0 := by
  induction S with
  | nil => rfl
  | cons e r ih =>
    obtain ⟨a, u⟩ := e
    rw [KD_cons] at hS
    rw [cnt_cons, cnt_cons, lk_cons]
    by_cases h : a = k
    · subst h
      have := cnt_absent r a (fun _ => true) hS.1
      simp only [Bool.true_and] at this
      rw [if_pos (rfl : a = a), this]; simp
    · have hd : decide (a ≠ k) = true := by simp [h]
      rw [if_neg h, ih hS.2, hd]
      simp only [if_true]
      omega

/-! ### What a list of pairs builds -/
def bld (Kf : Nat → K) (Vf : Nat → V) : Nat → List (K × V)
  | 0 => []
  | n + 1 => ins (bld Kf Vf n) (Kf n) (Vf n)
/-- The value of the last pair with key k. -/
def last (Kf : Nat → K) (Vf : Nat → V) : Nat → K → Option V
  | 0, _ => none
  | n + 1, k => if Kf n = k then some (Vf n) else last Kf Vf n k
theorem bld_succ (Kf : Nat → K) (Vf : Nat → V) (n : Nat) : bld Kf Vf (n + 1) = ins (bld Kf Vf n) (Kf n) (Vf n) := rfl
theorem last_succ (Kf : Nat → K) (Vf : Nat → V) (n : Nat) (k : K) : last Kf Vf (n + 1) k = if Kf n = k then some (Vf n) else last Kf Vf n k := rfl

theorem KD_bld (Kf : Nat → K) (Vf : Nat → V) (n : Nat) : KD (bld Kf Vf n) := by
  induction n with
  | zero => trivial
  | succ n ih => exact KD_ins _ _ _ ih
theorem lk_bld (Kf : Nat → K) (Vf : Nat → V) (n : Nat) (k : K) : lk (bld Kf Vf n) k = last Kf Vf n k := by
  induction n with
  | zero => rfl
  | succ n ih =>
    rw [bld_succ, lk_ins, last_succ, ih]
    by_cases h : k = Kf n
    · rw [if_pos h, if_pos h.symm]
    · rw [if_neg h, if_neg (fun e => h e.symm)]
theorem last_map {W : Type} (Kf : Nat → K) (Vf : Nat → V) (f : V → W) (n : Nat) (k : K) : last Kf (fun i => f (Vf i)) n k = (last Kf Vf n k).map f := by
  induction n with
  | zero => rfl
  | succ n ih => rw [last_succ, last_succ, ih]; split <;> rfl

/-! ### Distinct keys, counted by their last places -/
/-- Does a later place, below m, have the key of place i? -/
def dupTo (Kf : Nat → K) (i : Nat) : Nat → Bool
  | 0 => false
  | m + 1 => dupTo Kf i m || (decide (i < m) && decide (Kf m = Kf i))
theorem dupTo_succ (Kf : Nat → K) (i m : Nat) : dupTo Kf i (m + 1) = (dupTo Kf i m || (decide (i < m) && decide (Kf m = Kf i))) := rfl
theorem dupTo_low (Kf : Nat → K) (i m : Nat) (h : m ≤ i + 1) : dupTo Kf i m = false := by
  induction m with
  | zero => rfl
  | succ m ih => rw [dupTo_succ, ih (by omega), decide_eq_false (by omega : ¬ i < m)]; rfl
/-- The places below t that no later place below n repeats, and whose key meets p. -/
def dcount (Kf : Nat → K) (p : K → Bool) (n : Nat) : Nat → Nat
  | 0 => 0
  | t + 1 => dcount Kf p n t + if !dupTo Kf t n && p (Kf t) then 1 else 0
theorem dcount_succ (Kf : Nat → K) (p : K → Bool) (n t : Nat) : dcount Kf p n (t + 1) = dcount Kf p n t + if !dupTo Kf t n && p (Kf t) then 1 else 0 := rfl
theorem dcount_le (Kf : Nat → K) (p : K → Bool) (n t : Nat) : dcount Kf p n t ≤ t := by
  induction t with
  | zero => exact Nat.le_refl _
  | succ t ih => rw [dcount_succ]; split <;> omega
theorem dcount_step (Kf : Nat → K) (p : K → Bool) (n t : Nat) (h : t ≤ n) : dcount Kf p (n + 1) t = dcount Kf (fun x => p x && decide (x ≠ Kf n)) n t := by
  induction t with
  | zero => rfl
  | succ t ih =>
    rw [dcount_succ, dcount_succ, ih (by omega), dupTo_succ, decide_eq_true (by omega : t < n)]
    have e : (!(dupTo Kf t n || (true && decide (Kf n = Kf t))) && p (Kf t)) = (!dupTo Kf t n && (p (Kf t) && decide (Kf t ≠ Kf n))) := by
      by_cases h : Kf t = Kf n
      · have h1 : decide (Kf n = Kf t) = true := by simp [h]
        have h2 : decide (Kf t ≠ Kf n) = false := by simp [h]
        rw [h1, h2]; simp
      · have h1 : decide (Kf n = Kf t) = false := by simp; exact fun e => h e.symm
        have h2 : decide (Kf t ≠ Kf n) = true := by simp [h]
        rw [h1, h2]; simp
    rw [e]
theorem dcount_bld (Kf : Nat → K) (Vf : Nat → V) (n : Nat) (p : K → Bool) : dcount Kf p n n = cnt (bld Kf Vf n) p := by
  induction n generalizing p with
  | zero => rfl
  | succ n ih =>
    rw [dcount_succ, dcount_step Kf p n n (Nat.le_refl _), dupTo_low Kf n (n + 1) (Nat.le_refl _), ih, bld_succ, cnt_ins _ _ _ _ (KD_bld Kf Vf n)]
    simp

/-! ### take -/
def tk (S T : List (K × V)) (f : K) : List (K × V) := match lk T f with
  | some v => ins (rm S f) f v
  | none => rm S f
theorem KD_tk (S T : List (K × V)) (f : K) (hS : KD S) : KD (tk S T f) := by
  unfold tk; split
  · exact KD_ins _ _ _ (KD_rm _ _ hS)
  · exact KD_rm _ _ hS
theorem lk_tk (S T : List (K × V)) (f k : K) (hS : KD S) : lk (tk S T f) k = if k = f then lk T f else lk S k := by
  unfold tk
  by_cases h : k = f
  · rw [if_pos h]
    subst h
    cases hl : lk T k with
    | none => exact lk_rm_same _ _ hS
    | some v => show lk (ins (rm S k) k v) k = some v; rw [lk_ins, if_pos rfl]
  · rw [if_neg h]
    cases lk T f with
    | none => exact lk_rm_other _ _ _ h
    | some v => show lk (ins (rm S f) f v) k = _; rw [lk_ins, if_neg h, lk_rm_other _ _ _ h]
theorem cnt_tk (S T : List (K × V)) (f : K) (hS : KD S) : cnt (tk S T f) (fun x => decide (x ≠ f)) = cnt S (fun x => decide (x ≠ f)) := by
  unfold tk
  have e : ∀ S : List (K × V), cnt S (fun x => decide (x ≠ f) && decide (x ≠ f)) = cnt S (fun x => decide (x ≠ f)) := fun S => cnt_congr S _ _ (fun x => by simp)
  split
  · rw [cnt_ins _ _ _ _ (KD_rm _ _ hS), e, cnt_rm _ _ _ hS, e]; simp
  · rw [cnt_rm _ _ _ hS, e]
theorem length_tk (S T : List (K × V)) (f : K) (hS : KD S) : (tk S T f).length = cnt S (fun x => decide (x ≠ f)) + if (lk T f).isSome then 1 else 0 := by
  rw [length_cnt, cnt_split _ f (KD_tk S T f hS), cnt_tk S T f hS, lk_tk S T f f hS, if_pos rfl]

end Go.Proofs.Qxb6605665a.Mp
