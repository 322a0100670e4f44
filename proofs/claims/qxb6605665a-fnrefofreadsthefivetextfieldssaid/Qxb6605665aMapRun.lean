/-
  WHAT THE MAP OPERATIONS DO at a map keyed by strings, as equations on plain lists of pairs.
-/
import Derived.Test.Qxb6605665aRows
import Derived.Test.Qxb6605665aMaps
import Derived.WalkKit
import Derived.WalkSpells
import Derived.WalkLawsBesides
import Derived.Outline
import Derived.BigQuiet
import Derived.Deep.QuietTactic
import Derived.MapKept
import Derived.Laws.AppendOwn
import Derived.WideShapes
namespace Go.Proofs.Qxb6605665a
open Go.RowKit Mp

theorem hide {p : Prop} (h : p) : Hid p := h
theorem unhide {p : Prop} (h : Hid p) : p := h

theorem ba_beq (a b : ByteArray) : (a == b) = decide (a = b) := by
  show ByteArray.beq a b = _
  unfold ByteArray.beq
  rw [Bool.eq_iff_iff]
  simp
  cases a; cases b; simp
theorem ba_list (a b : ByteArray) : (a.toList == b.toList) = decide (a = b) := by
  rw [Bool.eq_iff_iff]
  simp only [beq_iff_eq, decide_eq_true_eq]
  constructor
  · intro h; rw [ByteArray.toList_eq, ByteArray.toList_eq] at h; exact WideShapes.bytes_inj h
  · rintro rfl; rfl

/-- The entries of a map as pairs of a string and a value. -/
def Rep (l : List MapEntry) (S : List (ByteArray × Value)) : Prop := l.map (fun e => (e.key, e.val)) = S.map (fun p => (Value.string p.1, p.2))

theorem rep_nil {l : List MapEntry} (h : Rep l []) : l = [] := by
  cases l with
  | nil => rfl
  | cons e r => cases h
theorem rep_cons {l : List MapEntry} {a : ByteArray} {v : Value} {S : List (ByteArray × Value)} (h : Rep l ((a, v) :: S)) : ∃ e r, l = e :: r ∧ e.key = .string a ∧ e.val = v ∧ Rep r S := by
  cases l with
  | nil => cases h
  | cons e r =>
    simp only [Rep, List.map_cons, List.cons.injEq, Prod.mk.injEq] at h
    exact ⟨e, r, rfl, h.1.1, h.1.2, h.2⟩

theorem sameNow_string (a b : ByteArray) : Instr.sameNow .string (.string a) (.string b) = some (decide (a = b)) := by
  show some (a == b) = _; rw [ba_beq]

/-- Where the key stands. -/
def posOf : List (ByteArray × Value) → ByteArray → Nat → Option (Nat × Value)
  | [], _, _ => none
  | (a, v) :: r, k, i => if a = k then some (i, v) else posOf r k (i + 1)
theorem findNow_rep (k : ByteArray) : ∀ (S : List (ByteArray × Value)) (l : List MapEntry) (i : Nat), Rep l S → Instr.findNow .string (.string k) l i = some (posOf S k i)
  | [], l, i, h => by rw [rep_nil h]; rfl
  | (a, v) :: S, l, i, h => by
    obtain ⟨e, r, rfl, hk, hv, hr⟩ := rep_cons h
    unfold Instr.findNow posOf
    rw [hk, sameNow_string]
    by_cases c : a = k
    · subst c; simp [hv]
    · have c' : decide (k = a) = false := by simp; exact fun e => c e.symm
      rw [c', if_neg c]
      exact findNow_rep k S r (i + 1) hr

theorem posOf_lk (S : List (ByteArray × Value)) (k : ByteArray) (i : Nat) : (posOf S k i).map (·.2) = lk S k := by
  induction S generalizing i with
  | nil => rfl
  | cons e r ih =>
    obtain ⟨a, v⟩ := e
    unfold posOf; rw [lk_cons]
    by_cases c : a = k
    · rw [if_pos c, if_pos c]; rfl
    · rw [if_neg c, if_neg c]; exact ih (i + 1)

/-- What 'modify' at the found place, and 'eraseIdx', do to the list. -/
theorem rep_modify (k : ByteArray) (v : Value) : ∀ (S : List (ByteArray × Value)) (l : List MapEntry) (i j : Nat) (u : Value), Rep l S → posOf S k i = some (i + j, u) →
    Rep (l.modify j fun e => { e with key := .string k, val := v }) (ins S k v) ∧ Rep (l.eraseIdx j) (rm S k) ∧ j < l.length ∧ (l[j]?).map (·.key) = some (.string k)
  | [], _, _, _, _, _, hp => by cases hp
  | (a, x) :: S, l, i, j, u, h, hp => by
    obtain ⟨e, r, rfl, hk, hv, hr⟩ := rep_cons h
    unfold posOf at hp
    rw [ins_cons, rm_cons]
    by_cases c : a = k
    · rw [if_pos c] at hp ⊢
      rw [if_pos c]
      have : j = 0 := by
        have := congrArg (fun o => (o.map (·.1)).getD 0) hp
        simp at this; omega
      subst this
      refine ⟨?_, ?_, by simp, by simp [hk, c]⟩
      · simp only [Rep, List.modify_zero_cons, List.map_cons]; rw [show List.map _ r = _ from hr]
      · simpa using hr
    · rw [if_neg c] at hp ⊢
      rw [if_neg c]
      obtain ⟨j, rfl⟩ : ∃ j', j = j' + 1 := by
        cases j with
        | zero =>
          exfalso
          have low : ∀ (S : List (ByteArray × Value)) (n m : Nat) (u : Value), posOf S k n = some (m, u) → n ≤ m := by
            intro S
            induction S with
            | nil => intro n m u h; cases h
            | cons e S ih =>
              obtain ⟨b, y⟩ := e
              intro n m u h
              unfold posOf at h
              by_cases cc : b = k
              · rw [if_pos cc] at h; simp at h; omega
              · rw [if_neg cc] at h; have := ih _ _ _ h; omega
          have := low _ _ _ _ hp; omega
        | succ j => exact ⟨j, rfl⟩
      obtain ⟨h1, h2, h3, h4⟩ := rep_modify k v S r (i + 1) j u hr (by rw [hp]; congr 2; omega)
      refine ⟨?_, ?_, by simp; omega, by simpa using h4⟩
      · simp only [Rep, List.modify_succ_cons, List.map_cons, hk, hv]; rw [show List.map _ (r.modify j _) = _ from h1]
      · simp only [Rep, List.eraseIdx_cons_succ, List.map_cons, hk, hv]; rw [show List.map _ (r.eraseIdx j) = _ from h2]

theorem posOf_none (S : List (ByteArray × Value)) (k : ByteArray) (i : Nat) (h : posOf S k i = none) (v : Value) : ins S k v = S ++ [(k, v)] ∧ rm S k = S := by
  induction S generalizing i with
  | nil => exact ⟨rfl, rfl⟩
  | cons e r ih =>
    obtain ⟨a, x⟩ := e
    unfold posOf at h
    by_cases c : a = k
    · rw [if_pos c] at h; cases h
    · rw [if_neg c] at h
      obtain ⟨h1, h2⟩ := ih (i + 1) h
      rw [ins_cons, rm_cons, if_neg c, if_neg c, h1, h2]; exact ⟨rfl, rfl⟩

/-- Block b holds a map whose entries are S. -/
def MapIs (w : World) (b : Nat) (S : List (ByteArray × Value)) : Prop := ∃ es clock, w.heap[b]? = some (.map es clock) ∧ Rep es.toList S

theorem MapIs.lt {w : World} {b : Nat} {S : List (ByteArray × Value)} (h : MapIs w b S) : b < w.heap.size := by
  obtain ⟨es, c, h, _⟩ := h
  rcases Nat.lt_or_ge b w.heap.size with h' | h'
  · exact h'
  · rw [Array.getElem?_eq_none h'] at h; cases h
theorem MapIs.of_block {w w' : World} {b : Nat} {S : List (ByteArray × Value)} (h : MapIs w b S) (hb : w'.heap[b]? = w.heap[b]?) : MapIs w' b S := by
  obtain ⟨es, c, h, hr⟩ := h; exact ⟨es, c, hb.trans h, hr⟩

/-! ### The runs, at this program: map[string]any is type 50, string 9, any 20 -/
theorem run_check (e : Bool) (k : ByteArray) (w : World) : (Instr.checkKey e 10000 9 (.string k)).run Try.prog w = .ok () w := by
  show (Instr.checkKey e (9999 + 1) 9 (.string k)).run Try.prog w = _
  unfold Instr.checkKey
  rw [Sem.run_bind, run_underlying Try.underlying9]
  rfl
theorem run_find (k : ByteArray) (l : List MapEntry) (S : List (ByteArray × Value)) (hr : Rep l S) (w : World) : (Instr.findKey 9 (.string k) l).run Try.prog w = .ok (posOf S k 0) w := by
  unfold Instr.findKey
  rw [Sem.run_bind, run_underlying Try.underlying9]
  simp only [Result.andThen_ok, findNow_rep k S l 0 hr, Sem.run_pure]
theorem zero20 (w : World) : (zeroValue 20).run Try.prog w = .ok .nilIface w := by kernel_rfl

theorem get_map {w : World} {b : Nat} {es : Array MapEntry} {c : Nat} (hb : w.heap[b]? = some (.map es c)) : (getObj b).run Try.prog w = .ok (.map es c) w := by simp [getObj, Sem.run, hb]
theorem set_map {w : World} {b : Nat} {es : Array MapEntry} {c : Nat} (o : Obj) (hb : w.heap[b]? = some (.map es c)) : (setObj b o).run Try.prog w = .ok () { w with heap := w.heap.setIfInBounds b o } := by simp [setObj, Sem.run, hb]

theorem look_ok {w : World} {b : Nat} {S : List (ByteArray × Value)} (hM : MapIs w b S) (k : ByteArray) :
    (Instr.lookup 50 (.map (some b)) (.string k) true).run Try.prog w = .ok (.tuple #[(lk S k).getD .nilIface, .bool (lk S k).isSome]) w := by
  obtain ⟨es, c, hb, hr⟩ := hM
  unfold Instr.lookup
  simp only [Sem.run_bind, run_underlying Try.underlying50, Result.andThen_ok, get_map hb, Sem.run_pure, run_check, run_find k es.toList S hr]
  rw [← posOf_lk S k 0]
  cases posOf S k 0 with
  | none => simp
  | some p => obtain ⟨i, v⟩ := p; simp
theorem look_one {w : World} {b : Nat} {S : List (ByteArray × Value)} (hM : MapIs w b S) (k : ByteArray) :
    (Instr.lookup 50 (.map (some b)) (.string k) false).run Try.prog w = .ok ((lk S k).getD .nilIface) w := by
  obtain ⟨es, c, hb, hr⟩ := hM
  unfold Instr.lookup
  simp only [Sem.run_bind, run_underlying Try.underlying50, Result.andThen_ok, get_map hb, Sem.run_pure, run_check, run_find k es.toList S hr]
  rw [← posOf_lk S k 0]
  cases posOf S k 0 with
  | none => simp
  | some p => obtain ⟨i, v⟩ := p; simp
theorem look_none (w : World) (k : ByteArray) : (Instr.lookup 50 (.map none) (.string k) false).run Try.prog w = .ok .nilIface w := by
  unfold Instr.lookup
  simp only [Sem.run_bind, run_underlying Try.underlying50, Result.andThen_ok, Sem.run_pure, run_check, run_find k [] [] rfl]
  simp [posOf]

theorem put_block (w : World) (b : Nat) (o o' : Obj) (h : w.heap[b]? = some o) : ({ w with heap := w.heap.setIfInBounds b o' } : World).heap[b]? = some o' ∧ w.grownBy { w with heap := w.heap.setIfInBounds b o' } (some b) ∧ ({ w with heap := w.heap.setIfInBounds b o' } : World).heap.size = w.heap.size := by
  have hlt : b < w.heap.size := by
    rcases Nat.lt_or_ge b w.heap.size with h' | h'
    · exact h'
    · rw [Array.getElem?_eq_none h'] at h; cases h
  refine ⟨by simp [hlt], ⟨rfl, rfl, rfl, by simp, fun k _ hr => ?_⟩, by simp⟩
  show (w.heap.setIfInBounds b o')[k]? = w.heap[k]?
  rw [Array.getElem?_setIfInBounds_ne (fun e => hr (by rw [e]))]

theorem upd_run {w : World} {b : Nat} {S : List (ByteArray × Value)} (hM : MapIs w b S) (k : ByteArray) (v : Value) :
    ∃ w', (Instr.mapUpdate 50 (.map (some b)) (.string k) v).run Try.prog w = .ok () w' ∧ MapIs w' b (ins S k v) ∧ w.grownBy w' (some b) ∧ w'.heap.size = w.heap.size := by
  obtain ⟨es, c, hb, hr⟩ := hM
  unfold Instr.mapUpdate
  simp only [Sem.run_bind, run_underlying Try.underlying50, Result.andThen_ok, get_map hb, run_check, run_find k es.toList S hr]
  cases hp : posOf S k 0 with
  | none =>
    obtain ⟨g1, g2, g3⟩ := put_block w b _ (.map (es.push { key := .string k, val := v, born := c }) (c + 1)) hb
    refine ⟨_, set_map _ hb, ⟨_, _, g1, ?_⟩, g2, g3⟩
    rw [(posOf_none S k 0 hp v).1]
    simp only [Rep, Array.toList_push, List.map_append, List.map_cons, List.map_nil]
    rw [show List.map _ es.toList = _ from hr]
  | some p =>
    obtain ⟨i, u⟩ := p
    obtain ⟨h1, _, h3, h4⟩ := rep_modify k v S es.toList 0 i u hr (by simpa using hp)
    have hkey : ((es[i]?).map (·.key)).getD (.string k) = .string k := by
      rw [show es[i]? = es.toList[i]? from by simp, h4]; rfl
    have hs : (Instr.keyThatStays (.string k) (.string k)).run Try.prog w = .ok (.string k) w := by
      unfold Instr.keyThatStays
      have : Instr.sameBits 10000 (.string k) (.string k) = true := by
        show (k == k) = true; rw [ba_beq]; simp
      rw [this]; rfl
    obtain ⟨g1, g2, g3⟩ := put_block w b _ (.map (es.modify i fun e => { e with key := .string k, val := v }) c) hb
    refine ⟨_, ?_, ⟨_, _, g1, by rw [Array.toList_modify]; exact h1⟩, g2, g3⟩
    simp only [hkey, Sem.run_bind, hs, Result.andThen_ok]
    exact set_map _ hb

theorem del_run {w : World} {b : Nat} {S : List (ByteArray × Value)} (hM : MapIs w b S) (k : ByteArray) (ty : TypeId) :
    ∃ w', (Builtin.delete_ #[50, 9] ty #[.map (some b), .string k]).run Try.prog w = .ok (.tuple #[]) w' ∧ MapIs w' b (rm S k) ∧ w.grownBy w' (some b) ∧ w'.heap.size = w.heap.size := by
  obtain ⟨es, c, hb, hr⟩ := hM
  unfold Builtin.delete_
  cases hp : posOf S k 0 with
  | none =>
    obtain ⟨g1, g2, g3⟩ := put_block w b _ (.map es c) hb
    refine ⟨{ w with heap := w.heap.setIfInBounds b (.map es c) }, ?_, ⟨_, _, g1, by rw [(posOf_none S k 0 hp .nilIface).2]; exact hr⟩, g2, g3⟩
    simp [Sem.run_bind, run_underlying Try.underlying50, get_map hb, run_check, run_find k es.toList S hr, hp, set_map _ hb]
  | some p =>
    obtain ⟨i, u⟩ := p
    obtain ⟨_, h2, h3, _⟩ := rep_modify k .nilIface S es.toList 0 i u hr (by simpa using hp)
    obtain ⟨g1, g2, g3⟩ := put_block w b _ (.map (es.eraseIdxIfInBounds i) c) hb
    refine ⟨{ w with heap := w.heap.setIfInBounds b (.map (es.eraseIdxIfInBounds i) c) }, ?_, ⟨_, _, g1, ?_⟩, g2, g3⟩
    · simp [Sem.run_bind, run_underlying Try.underlying50, get_map hb, run_check, run_find k es.toList S hr, hp, set_map _ hb]
    · have hi : i < es.size := by simpa using h3
      rw [show es.eraseIdxIfInBounds i = es.eraseIdx i hi from by simp [Array.eraseIdxIfInBounds, hi], Array.toList_eraseIdx]
      exact h2

theorem rep_length {l : List MapEntry} {S : List (ByteArray × Value)} (h : Rep l S) : l.length = S.length := by
  have := congrArg List.length h
  simpa using this
theorem len_run {w : World} {b : Nat} {S : List (ByteArray × Value)} (hM : MapIs w b S) (ty : TypeId) :
    (Builtin.len_ #[50] ty #[.map (some b)]).run Try.prog w = .ok (.int .i64 (S.length : Nat)) w := by
  obtain ⟨es, c, hb, hr⟩ := hM
  have hl : es.size = S.length := by rw [← rep_length hr]; simp
  rw [← hl]
  simp [Builtin.len_, run_underlying Try.underlying50, get_map hb, goInt]
end Go.Proofs.Qxb6605665a
