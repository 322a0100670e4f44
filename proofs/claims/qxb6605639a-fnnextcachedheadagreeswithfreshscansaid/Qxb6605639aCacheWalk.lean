/-
  THE WALK of the law FnNextCachedHeadAgreesWithFreshScan.
-/
import Derived.Test.Qxb6605639aFindWalk3
import Derived.Test.Qxb6605639aCount
namespace Go.Proofs.Qxb6605639a.Nx
open Go.RowKit

theorem xor_two (a : Nat) : (a ^^^ 1) % 2 ≠ a % 2 := by
  have h := Nat.xor_mod_two_pow (a := a) (b := 1) (n := 1)
  simp only [Nat.pow_one] at h
  rw [h]
  rcases Nat.mod_two_eq_zero_or_one a with e | e <;> rw [e] <;> decide
theorem xor1_ne (ev : Int) : bits .xor .i64 ev 1 ≠ ev := by
  intro h
  unfold bits at h
  simp only [IntKind.wrap_i64] at h
  have e : ((BitVec.ofInt IntKind.i64.bits ev ^^^ BitVec.ofInt IntKind.i64.bits 1).toNat) = ((ev % 18446744073709551616).toNat ^^^ 1) := by
    rw [BitVec.toNat_xor]; rfl
  rw [e] at h
  have := xor_two (ev % 18446744073709551616).toNat
  omega

/-- The order's and the free machines' clones, in the call's own memory. -/
structure Held (w0 w : World) (g1 g2 lo lf : Nat) (O : Nat → Int) (F : Nat → Bool) : Prop where
  below : Below w0.heap.size w0 w
  n1 : w0.heap.size ≤ g1
  n2 : w0.heap.size ≤ g2
  l1 : g1 < w.heap.size
  l2 : g2 < w.heap.size
  ne : g1 ≠ g2
  ord : ∀ i, i < lo → w.cell? ⟨g1, i, none⟩ = some (.int .i32 (O i))
  fre : ∀ x, x < lf → w.cell? ⟨g2, x, none⟩ = some (.bool (F x))
  frz : ∀ x, w.frozen? ⟨g2, x, none⟩ = false

theorem Held.grown {w0 w w' : World} {g1 g2 lo lf : Nat} {O : Nat → Int} {F : Nat → Bool} (h : Held w0 w g1 g2 lo lf O F) {row : Option Nat} (hg : w.grownBy w' row) (h0 : ∀ r, row = some r → w0.heap.size ≤ r ∧ r ≠ g1 ∧ r ≠ g2) : Held w0 w' g1 g2 lo lf O F := by
  have b1 : w'.heap[g1]? = w.heap[g1]? := hg.block g1 h.l1 (fun e => (h0 g1 e.symm).2.1 rfl)
  have b2 : w'.heap[g2]? = w.heap[g2]? := hg.block g2 h.l2 (fun e => (h0 g2 e.symm).2.2 rfl)
  exact ⟨h.below.grown hg h.below.size (fun k e => (h0 k e).1), h.n1, h.n2, Nat.lt_of_lt_of_le h.l1 hg.size, Nat.lt_of_lt_of_le h.l2 hg.size, h.ne,
    fun i hi => (World.cell?_of_block (w := w) b1).trans (h.ord i hi), fun x hx => (World.cell?_of_block (w := w) b2).trans (h.fre x hx), fun x => (World.frozen?_of_block (w := w) b2).trans (h.frz x)⟩

theorem Held.seen {w0 w : World} {g1 g2 lo lf : Nat} {O : Nat → Int} {F : Nat → Bool} (h : Held w0 w g1 g2 lo lf O F) (hlo : lo ≤ 65536) (hlf : lf ≤ 65536) (hok : ∀ i, i < lo → 0 ≤ O i ∧ O i < lf) :
    Seen w (some ⟨g1, 0, none⟩) (some ⟨g2, 0, none⟩) lo lf O F := seen_of hlo hlf hok h.ord h.fre

theorem Held.drew {w0 w : World} {g1 g2 lo lf : Nat} {O : Nat → Int} {F : Nat → Bool} (h : Held w0 w g1 g2 lo lf O F) (n : Nat) : Held w0 (w.drewN n) g1 g2 lo lf O F := h.grown (grownBy_drewN w n none) (fun r e => by cases e)

/-- A machine is taken. -/
theorem Held.take {w0 w : World} {g1 g2 lo lf : Nat} {O : Nat → Int} {F : Nat → Bool} (h : Held w0 w g1 g2 lo lf O F) (m : Nat) (hm : m < lf) : Held w0 (w.setCell ⟨g2, m, none⟩ (.bool false)) g1 g2 lo lf O (Sc.drop F m) := by
  have b1 : (w.setCell ⟨g2, m, none⟩ (.bool false)).heap[g1]? = w.heap[g1]? := Below.heap_setCell _ _ _ _ h.ne
  refine ⟨h.below.setCell h.n2 _, h.n1, h.n2, by simp [World.setCell]; exact h.l1, by simp [World.setCell]; exact h.l2, h.ne, fun i hi => (World.cell?_of_block (w := w) b1).trans (h.ord i hi), fun x hx => ?_, fun x => by rw [World.frozen?_setCell]; exact h.frz x⟩
  by_cases e : x = m
  · subst e
    rw [Sc.drop_at]
    exact World.cell?_setCell_same _ _ _ (h.fre x hx)
  · rw [Sc.drop_ne F m x e, World.cell?_setCell_other _ _ _ _ (fun q => e (congrArg Addr.off q).symm)]
    exact h.fre x hx

/-- The order as numbers of machines. -/
def nat (O : Nat → Int) (i : Nat) : Nat := (O i).toNat

/-- 'seen', in the call's own memory, behind n rounds. -/
structure Marks (w0 w : World) (g1 g2 g3 lo lf : Nat) (O : Nat → Int) (F : Nat → Bool) (n : Nat) : Prop where
  held : Held w0 w g1 g2 lo lf O F
  n3 : w0.heap.size ≤ g3
  l3 : g3 < w.heap.size
  d1 : g3 ≠ g1
  d2 : g3 ≠ g2
  mrk : ∀ x, x < lf → w.cell? ⟨g3, x, none⟩ = some (.bool (Sc.mark (nat O) F n x))
  frz : ∀ x, w.frozen? ⟨g3, x, none⟩ = false

theorem made_false (n x : Nat) (h : x < n) : (madeCells #[.bool false] n)[x]? = some (.bool false) := by
  simp [madeCells, h, Nat.mod_one]

theorem Marks.start {w0 w : World} {g1 g2 lo lf : Nat} {O : Nat → Int} {F : Nat → Bool} (h : Held w0 w g1 g2 lo lf O F) : Marks w0 (w.alloc (.cells (madeCells #[.bool false] lf) 4)) g1 g2 w.heap.size lo lf O F 0 := by
  refine ⟨h.grown (World.grownBy_alloc w _ none) (fun r e => by cases e), h.below.size, by simp, Nat.ne_of_gt h.l1, Nat.ne_of_gt h.l2, fun x hx => ?_, fun x => by simp⟩
  rw [World.cell?_alloc_new, made_false lf x hx, Sc.mark_zero]

theorem Marks.stay {w0 w : World} {g1 g2 g3 lo lf : Nat} {O : Nat → Int} {F : Nat → Bool} {n : Nat} (h : Marks w0 w g1 g2 g3 lo lf O F n) (hs : F (nat O n) = false ∨ Sc.seenIn (nat O) n (nat O n) = true) : Marks w0 w g1 g2 g3 lo lf O F (n + 1) :=
  ⟨h.held, h.n3, h.l3, h.d1, h.d2, fun x hx => by rw [Sc.mark_stay hs]; exact h.mrk x hx, h.frz⟩

theorem Marks.set {w0 w : World} {g1 g2 g3 lo lf : Nat} {O : Nat → Int} {F : Nat → Bool} {n : Nat} (h : Marks w0 w g1 g2 g3 lo lf O F n) (hs : F (nat O n) = true) : Marks w0 (w.setCell ⟨g3, nat O n, none⟩ (.bool true)) g1 g2 g3 lo lf O F (n + 1) := by
  refine ⟨h.held.grown (grownBy_setCell w ⟨g3, nat O n, none⟩ _) (fun r e => by cases e; exact ⟨h.n3, h.d1, h.d2⟩), h.n3, by simp [World.setCell]; exact h.l3, h.d1, h.d2, fun x hx => ?_, fun x => by rw [World.frozen?_setCell]; exact h.frz x⟩
  by_cases e : x = nat O n
  · subst e
    rw [Sc.mark_hit hs]
    exact World.cell?_setCell_same _ _ _ (h.mrk _ hx)
  · rw [Sc.mark_ne e, World.cell?_setCell_other _ _ _ _ (fun q => e (congrArg Addr.off q).symm)]
    exact h.mrk x hx

/-- The script's state at the head of a round: t machines have been taken. -/
structure Taken (w0 w : World) (g1 g2 k lo lf : Nat) (O : Nat → Int) (F : Nat → Bool) (hd hev ev : Int) (s t W : Nat) : Prop where
  held : Held w0 w g1 g2 lo lf O F
  rk : Rk w k (some ⟨g1, 0, none⟩) lo lo hd hev
  kn : w0.heap.size ≤ k
  k1 : k ≠ g1
  k2 : k ≠ g2
  hs : hev = ev ∧ hd = (s : Int) ∨ hev ≠ ev ∧ s = 0
  sle : s ≤ lo
  bef : ∀ j, j < s → freeAt O F j = false
  cnt : t + Sc.dc (nat O) F lo = W

/-- Within a round: both rankings know the least free place. -/
structure Mid (w0 w : World) (g1 g2 k lo lf : Nat) (O : Nat → Int) (F : Nat → Bool) (hd ev : Int) : Prop where
  held : Held w0 w g1 g2 lo lf O F
  rk : Rk w k (some ⟨g1, 0, none⟩) lo lo hd ev

theorem Mid.grown {w0 w w' : World} {g1 g2 k lo lf : Nat} {O : Nat → Int} {F : Nat → Bool} {hd ev : Int} (h : Mid w0 w g1 g2 k lo lf O F hd ev) {row : Option Nat} (hg : w.grownBy w' row) (h0 : ∀ r, row = some r → w0.heap.size ≤ r ∧ r ≠ g1 ∧ r ≠ g2 ∧ r ≠ k) : Mid w0 w' g1 g2 k lo lf O F hd ev :=
  ⟨h.held.grown hg (fun r e => ⟨(h0 r e).1, (h0 r e).2.1, (h0 r e).2.2.1⟩), h.rk.of_block (hg.block k h.rk.lt (fun e => (h0 k e.symm).2.2.2 rfl))⟩

theorem own_addr {g1 g2 : Nat} {k n : Nat} (h1 : k ≠ g1 ∧ g1 < n) (h2 : k ≠ g2 ∧ g2 < n) : ∀ b o, ((some ⟨g1, 0, none⟩ : Option Addr) = some ⟨b, o, none⟩ ∨ (some ⟨g2, 0, none⟩ : Option Addr) = some ⟨b, o, none⟩) → b ≠ k ∧ b < n := by
  rintro b o (h | h)
  · simp at h; obtain ⟨rfl, _⟩ := h; exact ⟨Ne.symm h1.1, h1.2⟩
  · simp at h; obtain ⟨rfl, _⟩ := h; exact ⟨Ne.symm h2.1, h2.2⟩

theorem Taken.scan {w0 w : World} {g1 g2 k lo lf : Nat} {O : Nat → Int} {F : Nat → Bool} {hd hev ev : Int} {s t W : Nat} (h : Taken w0 w g1 g2 k lo lf O F hd hev ev s t W) : Sc.scan (freeAt O F) lo s = Sc.scan (freeAt O F) lo 0 := by
  have := Sc.scan_skip (P := freeAt O F) (n := lo) (s := 0) s (by have := h.sle; omega) (fun j _ hj => h.bef j (by omega))
  rw [this, Nat.zero_add]

/-- The first call of a round. -/
theorem Taken.next {w0 w : World} {g1 g2 k lo lf : Nat} {O : Nat → Int} {F : Nat → Bool} {hd hev ev : Int} {s t W : Nat} (h : Taken w0 w g1 g2 k lo lf O F hd hev ev s t W) (hlo : lo ≤ 65536) (hlf : lf ≤ 65536) (hok : ∀ i, i < lo → 0 ≤ O i ∧ O i < lf) :
    Calls Try.prog 14 #[.pointer (some ⟨k, 0, none⟩), .int .i64 ev, .slice (some ⟨g2, 0, none⟩) lf lf] w fun e w' => e = .returned (.int .i64 (Sc.scan (freeAt O F) lo 0 : Nat)) ∧ Mid w0 w' g1 g2 k lo lf O F (Sc.scan (freeAt O F) lo 0 : Nat) ev := by
  have := zznext_any k _ _ lo lf lo lf O F hd hev ev s h.hs w (h.held.seen hlo hlf hok) h.rk (own_addr ⟨h.k1, h.held.l1⟩ ⟨h.k2, h.held.l2⟩)
  rw [h.scan] at this
  refine this.mono ?_
  rintro e w' ⟨rfl, hR, hg⟩
  exact ⟨rfl, h.held.grown hg (fun r e => by cases e; exact ⟨h.kn, h.k1, h.k2⟩), hR⟩

/-- The fresh ranking, made. -/
theorem Mid.new {w0 w : World} {g1 g2 k lo lf : Nat} {O : Nat → Int} {F : Nat → Bool} {hd ev : Int} (h : Mid w0 w g1 g2 k lo lf O F hd ev) :
    Calls Try.prog 13 #[.slice (some ⟨g1, 0, none⟩) lo lo, .int .i64 0, .int .i64 ev] w fun e w' => e = .returned (.pointer (some ⟨w.heap.size, 0, none⟩)) ∧ Mid w0 w' g1 g2 k lo lf O F hd ev ∧ Rk w' w.heap.size (some ⟨g1, 0, none⟩) lo lo 0 ev ∧
      w0.heap.size ≤ w.heap.size ∧ w.heap.size ≠ g1 ∧ w.heap.size ≠ g2 ∧ w.heap.size ≠ k := by
  refine (zznew_any (some ⟨g1, 0, none⟩) lo lo 0 ev w).mono ?_
  rintro e w' ⟨rfl, hR, hg, hz⟩
  exact ⟨rfl, h.grown hg (fun r e => by cases e), hR, h.held.below.size, Nat.ne_of_gt h.held.l1, Nat.ne_of_gt h.held.l2, Nat.ne_of_gt h.rk.lt⟩

/-- The fresh ranking's own scan. -/
theorem Mid.fresh {w0 w : World} {g1 g2 k k2 lo lf : Nat} {O : Nat → Int} {F : Nat → Bool} {hd ev : Int} (h : Mid w0 w g1 g2 k lo lf O F hd ev) (hR : Rk w k2 (some ⟨g1, 0, none⟩) lo lo 0 ev) (q : w0.heap.size ≤ k2 ∧ k2 ≠ g1 ∧ k2 ≠ g2 ∧ k2 ≠ k)
    (hlo : lo ≤ 65536) (hlf : lf ≤ 65536) (hok : ∀ i, i < lo → 0 ≤ O i ∧ O i < lf) :
    Calls Try.prog 14 #[.pointer (some ⟨k2, 0, none⟩), .int .i64 ev, .slice (some ⟨g2, 0, none⟩) lf lf] w fun e w' => e = .returned (.int .i64 (Sc.scan (freeAt O F) lo 0 : Nat)) ∧ Mid w0 w' g1 g2 k lo lf O F hd ev := by
  refine (zznext_any k2 _ _ lo lf lo lf O F 0 ev ev 0 (Or.inl ⟨rfl, rfl⟩) w (h.held.seen hlo hlf hok) hR (own_addr ⟨q.2.1, h.held.l1⟩ ⟨q.2.2.1, h.held.l2⟩)).mono ?_
  rintro e w' ⟨rfl, _, hg⟩
  exact ⟨rfl, h.grown hg (fun r e => by cases e; exact q)⟩

/-- A machine taken: the next round's state. -/
theorem Mid.taken {w0 w : World} {g1 g2 k lo lf : Nat} {O : Nat → Int} {F : Nat → Bool} {ev : Int} {t W : Nat} (h : Mid w0 w g1 g2 k lo lf O F (Sc.scan (freeAt O F) lo 0 : Nat) ev) (hok : ∀ i, i < lo → 0 ≤ O i ∧ O i < lf)
    (hlt : Sc.scan (freeAt O F) lo 0 < lo) (kn : w0.heap.size ≤ k) (k1 : k ≠ g1) (k2 : k ≠ g2) (cnt : t + Sc.dc (nat O) F lo = W) :
    Taken w0 (w.setCell ⟨g2, nat O (Sc.scan (freeAt O F) lo 0), none⟩ (.bool false)) g1 g2 k lo lf O (Sc.drop F (nat O (Sc.scan (freeAt O F) lo 0))) (Sc.scan (freeAt O F) lo 0 : Nat) ev ev (Sc.scan (freeAt O F) lo 0) (t + 1) W := by
  have hf := Sc.scan_at hlt
  have hb := fun j => Sc.scan_before (P := freeAt O F) (n := lo) (s := 0) (j := j) (Nat.zero_le _)
  generalize Sc.scan (freeAt O F) lo 0 = x at *
  have hx : nat O x < lf := by have := hok x hlt; unfold nat; omega
  refine ⟨h.held.take _ hx, ?_, kn, k1, k2, Or.inl ⟨rfl, rfl⟩, by omega, fun j hj => Sc.drop_false (hb j hj), ?_⟩
  · exact h.rk.of_block (Below.heap_setCell _ _ _ _ k2)
  · have := Sc.dc_take (nat O) F lo x hlt hf
    omega

end Go.Proofs.Qxb6605639a.Nx
