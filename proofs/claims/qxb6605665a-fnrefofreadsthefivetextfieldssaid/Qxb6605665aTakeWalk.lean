/-
  THE WALK of the law FnTakeSetsOrDropsOneField.
-/
import Derived.Test.Qxb6605665aBytes
namespace Go.Proofs.Qxb6605665a
open Go.RowKit Mp

/-! ### The plain law -/
/-- What a list of pairs builds. -/
def obj (K V : Nat → ByteArray) (n : Nat) : List (ByteArray × Value) := bld K (fun i => strv (V i)) n

theorem KD_obj (K V : Nat → ByteArray) (n : Nat) : KD (obj K V n) := KD_bld _ _ _
theorem lk_obj (K V : Nat → ByteArray) (n : Nat) (k : ByteArray) : lk (obj K V n) k = (last K V n k).map strv := by
  unfold obj; rw [lk_bld, last_map]
theorem keep_false (s x : ByteArray) : keep s false x = true := rfl
theorem keep_true (s x : ByteArray) : keep s true x = decide (x ≠ s) := by unfold keep; by_cases h : x = s <;> simp [h]
theorem length_obj (K V : Nat → ByteArray) (n : Nat) (s : ByteArray) : (obj K V n).length = dcount K (keep s false) n n := by
  rw [dcount_bld K (fun i => strv (V i)) n, length_cnt]; rfl
theorem cnt_obj (K V : Nat → ByteArray) (n : Nat) (f : ByteArray) : cnt (obj K V n) (fun x => decide (x ≠ f)) = dcount K (keep f true) n n := by
  rw [dcount_bld K (fun i => strv (V i)) n]; exact cnt_congr _ _ _ (fun x => (keep_true f x).symm)
theorem isSome_obj (K V : Nat → ByteArray) (n : Nat) (f : ByteArray) : (lk (obj K V n) f).isSome = (last K V n f).isSome := by rw [lk_obj]; cases last K V n f <;> rfl

/-- The map that the model asks for. -/
structure Model (S : List (ByteArray × Value)) (K1 V1 K2 V2 : Nat → ByteArray) (n1 n2 : Nat) (f : ByteArray) : Prop where
  at_ : ∀ key, lk S key = (want K1 V1 K2 V2 n1 n2 f key).map strv
  len : S.length = dcount K1 (keep f true) n1 n1 + if (last K2 V2 n2 f).isSome then 1 else 0

/-- Any map that agrees with the first list away from the field, taken from the second. -/
theorem model_take (S T : List (ByteArray × Value)) (K1 V1 K2 V2 : Nat → ByteArray) (n1 n2 : Nat) (f : ByteArray) (hS : KD S) (hk : ∀ k, k ≠ f → lk S k = (last K1 V1 n1 k).map strv) (hc : cnt S (fun x => decide (x ≠ f)) = dcount K1 (keep f true) n1 n1)
    (hT : lk T f = (last K2 V2 n2 f).map strv) : Model (tk S T f) K1 V1 K2 V2 n1 n2 f := by
  refine ⟨fun key => ?_, ?_⟩
  · rw [lk_tk S T f key hS]
    unfold want
    by_cases h : key = f
    · rw [if_pos h, if_pos h]; exact hT
    · rw [if_neg h, if_neg h]; exact hk key h
  · rw [length_tk S T f hS, hc, hT]
    cases last K2 V2 n2 f <;> rfl

theorem model_first (K1 V1 K2 V2 : Nat → ByteArray) (n1 n2 : Nat) (f : ByteArray) : Model (tk (obj K1 V1 n1) (obj K2 V2 n2) f) K1 V1 K2 V2 n1 n2 f :=
  model_take _ _ _ _ _ _ _ _ _ (KD_obj _ _ _) (fun k _ => lk_obj K1 V1 n1 k) (cnt_obj K1 V1 n1 f) (lk_obj K2 V2 n2 f)

/-! ### The objects in memory -/
structure Obj (w : World) (g b : Nat) (S : List (ByteArray × Value)) : Prop where
  cell : w.cell? ⟨g, 0, none⟩ = some (.map (some b))
  map : MapIs w b S

theorem cell_ne_map {w : World} {g o b : Nat} {v : Value} {S : List (ByteArray × Value)} (h : w.cell? ⟨g, o, none⟩ = some v) (hM : MapIs w b S) : g ≠ b := by
  rintro rfl
  obtain ⟨es, c, hb, _⟩ := hM
  simp [World.cell?, hb] at h
theorem Obj.lt {w : World} {g b : Nat} {S : List (ByteArray × Value)} (h : Obj w g b S) : g < w.heap.size := World.block_lt_of_cell? w ⟨g, 0, none⟩ h.cell
theorem Obj.below {w w' : World} {g b : Nat} {S : List (ByteArray × Value)} (h : Obj w g b S) (hb : Below w.heap.size w w') : Obj w' g b S :=
  ⟨(hb.cell (p := ⟨g, 0, none⟩) h.lt).trans h.cell, h.map.of_block (hb.block b h.map.lt)⟩
/-- Another map is written. -/
theorem Obj.other {w w' : World} {g b b' : Nat} {S S' : List (ByteArray × Value)} (h : Obj w g b S) (hM : MapIs w b' S') (hne : b ≠ b') (hg : w.grownBy w' (some b')) : Obj w' g b S :=
  ⟨(World.cell?_of_block (w := w) (a := ⟨g, 0, none⟩) (hg.block g h.lt (fun e => cell_ne_map h.cell hM (Option.some.inj e)))).trans h.cell, h.map.of_block (hg.block b h.map.lt (fun e => hne (Option.some.inj e)))⟩
/-- This map is written. -/
theorem Obj.self {w w' : World} {g b : Nat} {S S' : List (ByteArray × Value)} (h : Obj w g b S) (hM : MapIs w' b S') (hg : w.grownBy w' (some b)) : Obj w' g b S' :=
  ⟨(World.cell?_of_block (w := w) (a := ⟨g, 0, none⟩) (hg.block g h.lt (fun e => cell_ne_map h.cell h.map (Option.some.inj e)))).trans h.cell, hM⟩
theorem Obj.drew {w : World} {g b : Nat} {S : List (ByteArray × Value)} (h : Obj w g b S) (q : Nat) : Obj (w.drewN q) g b S := ⟨h.cell, h.map.of_block rfl⟩
theorem Pairs.other {w w' : World} {a : Option Addr} {n b : Nat} {K V : Nat → ByteArray} {S : List (ByteArray × Value)} (h : Pairs w a n K V) (hM : MapIs w b S) (hg : w.grownBy w' (some b)) : Pairs w' a n K V := by
  rcases h with h | ⟨bb, off, e, hc⟩
  · exact Or.inl h
  · by_cases h0 : n = 0
    · exact Or.inl h0
    · have hx := (hc 0 (by omega)).1
      have hlt : bb < w.heap.size := World.block_lt_of_cell? w _ hx
      have q := hg.block bb hlt (fun e => cell_ne_map hx hM (Option.some.inj e))
      exact Or.inr ⟨bb, off, e, fun i hi => ⟨(World.cell?_of_block (w := w) (a := ⟨bb, _, none⟩) q).trans (hc i hi).1, (World.cell?_of_block (w := w) (a := ⟨bb, _, none⟩) q).trans (hc i hi).2⟩⟩
theorem below_drewN {B : Nat} {a w : World} (h : Below B a w) (n : Nat) : Below B a (w.drewN n) := h.trans ⟨rfl, rfl, rfl, Nat.le_refl _, fun _ _ => rfl⟩

/-- ZZNewObj without the second list. -/
theorem new_any (a : Option Addr) (n c : Nat) (K V : Nat → ByteArray) (w : World) (hP : Pairs w a n K V) (hn : n ≤ 1048576) :
    Calls Try.prog 14 #[.slice a n c, .slice none 0 0] w fun e w' => ∃ g b, e = .returned (.pointer (some ⟨g, 0, none⟩)) ∧ Obj w' g b (obj K V n) ∧ Below w.heap.size w w' ∧ w.heap.size ≤ b := by
  refine (newObj_any a n c K V none 0 0 (fun _ => ⟨#[]⟩) w hP (Or.inl rfl) hn (by omega)).mono ?_
  rintro e w' ⟨g, b, rfl, h1, h2, h3, h4, _⟩
  exact ⟨g, b, rfl, ⟨h1, h2⟩, h3, h4⟩

/-- ZZTake over objects. -/
theorem take_obj {w : World} {g1 b1 g2 b2 : Nat} {S1 S2 : List (ByteArray × Value)} (f : ByteArray) (h1 : Obj w g1 b1 S1) (h2 : Obj w g2 b2 S2) (hne : b2 ≠ b1) :
    Calls Try.prog 22 #[.pointer (some ⟨g1, 0, none⟩), .pointer (some ⟨g2, 0, none⟩), .string f] w fun e w' => e = .returned (.tuple #[]) ∧ Obj w' g1 b1 (tk S1 S2 f) ∧ Obj w' g2 b2 S2 ∧ w.grownBy w' (some b1) := by
  refine (zztake_any g1 g2 b1 b2 S1 S2 f w h1.cell h2.cell h1.map h2.map hne).mono ?_
  rintro e w' ⟨rfl, m1, m2⟩
  exact ⟨rfl, h1.self m1 m2, h2.other h1.map hne m2, m2⟩

/-- The check over objects. -/
theorem holds_obj {w : World} {g b : Nat} {S : List (ByteArray × Value)} {a1 : Option Addr} {n1 c1 : Nat} {K1 V1 : Nat → ByteArray} {a2 : Option Addr} {n2 c2 : Nat} {K2 V2 : Nat → ByteArray} {f : ByteArray} (hO : Obj w g b S) (hm : Model S K1 V1 K2 V2 n1 n2 f)
    (h1 : Pairs w a1 n1 K1 V1) (h2 : Pairs w a2 n2 K2 V2) (hn1 : n1 ≤ 1048576) (hn2 : n2 ≤ 1048576) :
    Calls Try.prog 23 #[.pointer (some ⟨g, 0, none⟩), .slice a1 n1 c1, .slice a2 n2 c2, .string f] w fun e w' => e = .returned (.bool true) ∧ ∃ q, w' = w.drewN q :=
  modelHolds_any g b S a1 n1 c1 K1 V1 a2 n2 c2 K2 V2 f w hO.cell hO.map h1 h2 hn1 hn2 hm.at_ hm.len
end Go.Proofs.Qxb6605665a
