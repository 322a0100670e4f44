/-
  HOW A SLICE OF PAIRS, AND A SLICE OF STRINGS, THAT CAME IN ARE OPENED.
-/
import Derived.Test.Qxb6605665aWalks3
import Derived.ProofKit
import Derived.OpenShut
import Derived.Deep.Slices
namespace Go.Proofs.Qxb6605665a
open Go.ChangeShapes Go.WideShapes Go.ChangeAt Go.RowKit Go.Deep Mp

theorem cells38 : Try.prog.cellsOf 38 = 2 := by kernel_rfl
theorem cells9 : Try.prog.cellsOf 9 = 1 := by kernel_rfl

theorem add_at (b off i : Nat) : (⟨b, off, none⟩ : Addr).add i = ⟨b, off + i, none⟩ := by unfold Addr.add; split <;> simp_all
theorem plain_addr {w : World} {ad : Addr} {v : Value} (h : w.cell? (ad.add 0) = some v) : ∃ b off, ad = ⟨b, off, none⟩ := by
  obtain ⟨b, off, spot⟩ := ad
  have hspot : spot = none := by simpa [Addr.add] using World.cell?_spot h
  exact ⟨b, off, by rw [hspot]⟩

section
variable {H : Type} {enc : TypeId × Value → H} {W : World} {fuel : Nat} {a : Option Addr} {len cap : Nat} {x : DataW H × List MemPlace}

theorem two_strings {n : Nat} {cs : List Value} {y : DataW H × List MemPlace} (h : DataW.trod enc Try.prog W 0 (fun _ => true) true n 38 cs = some y) : ∃ k v : ByteArray, cs = [.string k, .string v] := by
  obtain ⟨xs, m, _, _, hl, hx, hi⟩ := DataW.trod_array Try.underlying38 h
  rw [cells38] at hl
  rw [cells9] at hi
  match cs, hl with
  | [c0, c1], _ =>
    have h0 := hi 0 (by omega)
    have h1 := hi 1 (by omega)
    obtain ⟨y0, hy0⟩ : ∃ y0, xs[0]? = some y0 := ⟨xs[0], List.getElem?_eq_getElem (by omega)⟩
    obtain ⟨y1, hy1⟩ : ∃ y1, xs[1]? = some y1 := ⟨xs[1], List.getElem?_eq_getElem (by omega)⟩
    rw [hy0] at h0
    rw [hy1] at h1
    obtain ⟨s0, e0, _⟩ := DataW.trod_string Try.underlying9 h0
    obtain ⟨s1, e1, _⟩ := DataW.trod_string Try.underlying9 h1
    simp at e0 e1
    exact ⟨s0, s1, by rw [e0, e1]⟩

theorem open_pairs (h : DataW.trod enc Try.prog W 0 (fun _ => true) true fuel 22 [.slice a len cap] = some x) : (∃ K V, Pairs W a len K V) ∧ (a = none → len = 0 ∧ cap = 0) := by
  rcases open_slice Try.underlying22 h with ⟨hcs, _⟩ | ⟨ad, l, c, m, n, D, Pl, hcs, _, hl, hm, hmm, _, hx⟩
  · simp at hcs
    obtain ⟨rfl, rfl, rfl⟩ := hcs
    exact ⟨⟨fun _ => ⟨#[]⟩, fun _ => ⟨#[]⟩, Or.inl rfl⟩, fun _ => ⟨rfl, rfl⟩⟩
  · simp at hcs
    obtain ⟨rfl, rfl, rfl⟩ := hcs
    refine ⟨?_, fun h => by cases h⟩
    simp only [if_true] at hmm
    subst hmm
    rw [cells38] at hx
    by_cases h0 : len = 0
    · exact ⟨fun _ => ⟨#[]⟩, fun _ => ⟨#[]⟩, Or.inl h0⟩
    obtain ⟨f, hf⟩ := choose_lt (α := ByteArray × ByteArray) (n := len) (p := fun i kv => W.cell? ((ad.add (i * 2)).add 0) = some (.string kv.1) ∧ W.cell? ((ad.add (i * 2)).add 1) = some (.string kv.2)) (fun i hi => by
      obtain ⟨cs', h1, h2⟩ := hx i (by omega)
      obtain ⟨k, v, rfl⟩ := two_strings h2
      obtain ⟨_, _, hc⟩ := World.cells?_some h1
      exact ⟨(k, v), by rw [hc 0 (by omega)]; rfl, by rw [hc 1 (by omega)]; rfl⟩)
    have hz := (hf 0 (by omega)).1
    rw [add_add] at hz
    obtain ⟨b, off, rfl⟩ := plain_addr hz
    refine ⟨fun i => (f i).1, fun i => (f i).2, Or.inr ⟨b, off, rfl, fun i hi => ?_⟩⟩
    have := hf i hi
    rw [add_at, add_at, add_at] at this
    exact this

theorem open_strs (h : DataW.trod enc Try.prog W 0 (fun _ => true) true fuel 23 [.slice a len cap] = some x) : (∃ T, Strs W a len T) ∧ (a = none → len = 0 ∧ cap = 0) := by
  rcases open_slice1 Try.underlying23 cells9 h with ⟨hcs, _⟩ | ⟨ad, l, c, m, n, V, D, Pl, hcs, _, hl, hm, hmm, _, hx⟩
  · simp at hcs
    obtain ⟨rfl, rfl, rfl⟩ := hcs
    exact ⟨⟨fun _ => ⟨#[]⟩, Or.inl rfl⟩, fun _ => ⟨rfl, rfl⟩⟩
  · simp at hcs
    obtain ⟨rfl, rfl, rfl⟩ := hcs
    refine ⟨?_, fun h => by cases h⟩
    simp only [if_true] at hmm
    subst hmm
    by_cases h0 : len = 0
    · exact ⟨fun _ => ⟨#[]⟩, Or.inl h0⟩
    obtain ⟨f, hf⟩ := choose_lt (α := ByteArray) (n := len) (p := fun i s => W.cell? (ad.add i) = some (.string s)) (fun i hi => by
      obtain ⟨h1, h2⟩ := hx i (by omega)
      obtain ⟨s, e, _⟩ := DataW.trod_string Try.underlying9 h2
      simp at e
      exact ⟨s, by rw [h1, e]⟩)
    obtain ⟨b, off, rfl⟩ := plain_addr (hf 0 (by omega))
    refine ⟨f, Or.inr ⟨b, off, rfl, fun i hi => ?_⟩⟩
    have := hf i hi
    rw [add_at] at this
    exact this
end
end Go.Proofs.Qxb6605665a
