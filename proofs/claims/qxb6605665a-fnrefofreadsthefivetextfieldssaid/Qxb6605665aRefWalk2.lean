/-
  THE WALK of the law FnRefOfReadsTheFiveTextFields.
-/
import Derived.Test.Qxb6605665aRefWalk
namespace Go.Proofs.Qxb6605665a
open Go.RowKit Mp

/-! ### The plain law -/
/-- The object that two lists build. -/
def obj2 (K V : Nat → ByteArray) (n : Nat) (T : Nat → ByteArray) (m : Nat) : List (ByteArray × Value) := insN (obj K V n) T numv m

theorem val_text (K V : Nat → ByteArray) (n : Nat) (T : Nat → ByteArray) (m : Nat) (key : ByteArray) :
    ∃ v ok, (lk (obj2 K V n T m) key).getD .nilIface = v ∧ ∀ w, (Instr.typeAssert v 20 9 true).run Try.prog w = .ok (.tuple #[.string (textOf K V n T m key), .bool ok]) w := by
  unfold obj2 textOf
  rw [lk_insN]
  cases inT T m key with
  | true => exact ⟨numv, false, rfl, fun w => assert_num w⟩
  | false =>
    simp only [Bool.false_eq_true, if_false]
    rw [lk_obj]
    cases last K V n key with
    | none => exact ⟨.nilIface, false, rfl, fun w => assert_nil w⟩
    | some s => exact ⟨strv s, true, rfl, fun w => assert_str s w⟩
theorem val_nomap (K V : Nat → ByteArray) (n : Nat) (T : Nat → ByteArray) (m : Nat) (key : ByteArray) :
    ∃ v, (lk (obj2 K V n T m) key).getD .nilIface = v ∧ ∀ w, (Instr.typeAssert v 20 50 true).run Try.prog w = .ok (.tuple #[.map none, .bool false]) w := by
  unfold obj2
  rw [lk_insN]
  cases inT T m key with
  | true => exact ⟨numv, rfl, fun w => as50_num w⟩
  | false =>
    simp only [Bool.false_eq_true, if_false]
    rw [lk_obj]
    cases last K V n key with
    | none => exact ⟨.nilIface, rfl, fun w => as50_nil w⟩
    | some s => exact ⟨strv s, rfl, fun w => as50_str s w⟩

/-- A map that reads as the object's at a key. -/
theorem textIs_obj {w : World} {b : Nat} {S : List (ByteArray × Value)} (hM : MapIs w b S) (K V : Nat → ByteArray) (n : Nat) (T : Nat → ByteArray) (m : Nat) (key : ByteArray) (h : lk S key = lk (obj2 K V n T m) key) : TextIs w (some b) key (textOf K V n T m key) := by
  obtain ⟨v, ok, h1, h2⟩ := val_text K V n T m key
  exact textIs_some hM key (by rw [h]; exact h1) h2

theorem TextIs.later {w W : World} {m : Option Nat} {key s : ByteArray} (h : TextIs w m key s) (hs : w.heap.size ≤ W.heap.size) (hW : ∀ k, k < w.heap.size → W.heap[k]? = w.heap[k]?) : TextIs W m key s :=
  fun W' h' => h W' (fun k hk => (h' k (Nat.lt_of_lt_of_le hk hs)).trans (hW k hk))

theorem ne1 : (⟨#[97, 112, 105, 86, 101, 114, 115, 105, 111, 110]⟩ : ByteArray) ≠ ⟨#[109, 101, 116, 97, 100, 97, 116, 97]⟩ := by decide
theorem ne2 : (⟨#[107, 105, 110, 100]⟩ : ByteArray) ≠ ⟨#[109, 101, 116, 97, 100, 97, 116, 97]⟩ := by decide

/-- RefOf over an object without a metadata map. -/
theorem refOf_plain {w : World} {b : Nat} {K V : Nat → ByteArray} {n : Nat} {T : Nat → ByteArray} {m : Nat} (hM : MapIs w b (obj2 K V n T m)) :
    ∀ W : World, (∀ k, k < w.heap.size → W.heap[k]? = w.heap[k]?) → Calls Try.prog 32 #[.map (some b)] W fun e w' => e = .returned (.agg #[.string (textOf K V n T m ⟨#[97, 112, 105, 86, 101, 114, 115, 105, 111, 110]⟩), .string (textOf K V n T m ⟨#[107, 105, 110, 100]⟩), .string ⟨#[]⟩, .string ⟨#[]⟩, .string ⟨#[]⟩]) ∧ ∃ c, w' = W.alloc (.cells c 33) := by
  intro W hW
  have hM' : MapIs W b (obj2 K V n T m) := hM.of_block (hW b hM.lt)
  obtain ⟨v, h1, h2⟩ := val_nomap K V n T m ⟨#[109, 101, 116, 97, 100, 97, 116, 97]⟩
  exact refOf_any b _ none v false _ _ _ _ _ W hM' h1 h2 (textIs_obj hM' K V n T m _ rfl) (textIs_obj hM' K V n T m _ rfl) (textIs_none W _) (textIs_none W _) (textIs_none W _)

/-- RefOf over an object whose metadata is another. -/
theorem refOf_meta {w : World} {b b2 : Nat} {K V : Nat → ByteArray} {n : Nat} {T : Nat → ByteArray} {m : Nat} {K3 V3 : Nat → ByteArray} {n3 : Nat} {T4 : Nat → ByteArray} {m4 : Nat}
    (hM : MapIs w b (ins (obj2 K V n T m) ⟨#[109, 101, 116, 97, 100, 97, 116, 97]⟩ (mapv b2))) (hM2 : MapIs w b2 (obj2 K3 V3 n3 T4 m4)) :
    ∀ W : World, (∀ k, k < w.heap.size → W.heap[k]? = w.heap[k]?) → Calls Try.prog 32 #[.map (some b)] W fun e w' => e = .returned (.agg #[.string (textOf K V n T m ⟨#[97, 112, 105, 86, 101, 114, 115, 105, 111, 110]⟩), .string (textOf K V n T m ⟨#[107, 105, 110, 100]⟩),
      .string (textOf K3 V3 n3 T4 m4 ⟨#[110, 97, 109, 101, 115, 112, 97, 99, 101]⟩), .string (textOf K3 V3 n3 T4 m4 ⟨#[110, 97, 109, 101]⟩), .string (textOf K3 V3 n3 T4 m4 ⟨#[117, 105, 100]⟩)]) ∧ ∃ c, w' = W.alloc (.cells c 33) := by
  intro W hW
  have hA : MapIs W b _ := hM.of_block (hW b hM.lt)
  have hB : MapIs W b2 _ := hM2.of_block (hW b2 hM2.lt)
  refine refOf_any b _ (some b2) (mapv b2) true _ _ _ _ _ W hA (by rw [lk_ins, if_pos rfl]; rfl) (fun w => as50_map b2 w) (textIs_obj hA K V n T m _ (by rw [lk_ins, if_neg ne1])) (textIs_obj hA K V n T m _ (by rw [lk_ins, if_neg ne2]))
    (textIs_obj hB K3 V3 n3 T4 m4 _ rfl) (textIs_obj hB K3 V3 n3 T4 m4 _ rfl) (textIs_obj hB K3 V3 n3 T4 m4 _ rfl)

/-- ZZNewObj with both lists. -/
theorem new2_any (a : Option Addr) (n c : Nat) (K V : Nat → ByteArray) (a2 : Option Addr) (n2 c2 : Nat) (T : Nat → ByteArray) (w : World) (hP : Pairs w a n K V) (hT : Strs w a2 n2 T) (hn : n ≤ 1048576) (hn2 : n2 ≤ 1048576) :
    Calls Try.prog 14 #[.slice a n c, .slice a2 n2 c2] w fun e w' => ∃ g b, e = .returned (.pointer (some ⟨g, 0, none⟩)) ∧ Obj w' g b (obj2 K V n T n2) ∧ Below w.heap.size w w' ∧ w.heap.size ≤ b := by
  refine (newObj_any a n c K V a2 n2 c2 T w hP hT hn hn2).mono ?_
  rintro e w' ⟨g, b, rfl, h1, h2, h3, h4, _⟩
  exact ⟨g, b, rfl, ⟨h1, h2⟩, h3, h4⟩

theorem Strs.other {w w' : World} {a : Option Addr} {n b : Nat} {T : Nat → ByteArray} {S : List (ByteArray × Value)} (h : Strs w a n T) (hM : MapIs w b S) (hg : w.grownBy w' (some b)) : Strs w' a n T := by
  rcases h with h | ⟨bb, off, e, hc⟩
  · exact Or.inl h
  · by_cases h0 : n = 0
    · exact Or.inl h0
    · have hx := hc 0 (by omega)
      have hlt : bb < w.heap.size := World.block_lt_of_cell? w _ hx
      have q := hg.block bb hlt (fun e => cell_ne_map hx hM (Option.some.inj e))
      exact Or.inr ⟨bb, off, e, fun i hi => (World.cell?_of_block (w := w) (a := ⟨bb, _, none⟩) q).trans (hc i hi)⟩
end Go.Proofs.Qxb6605665a
