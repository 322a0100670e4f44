/-
  THE WALK of the law FnNextFindsFirstFreeFromHead.
-/
import Derived.Test.Qxb6605639aNextWalks3
namespace Go.Proofs.Qxb6605639a.Nx
open Go.RowKit

/-! ### The clones, as the laws use them -/
theorem cells_list {α : Type} (n : Nat) (f : Nat → α) (j : Nat) (v : α) (h : ((List.range n).map f)[j]? = some v) : j < n ∧ v = f j := by
  rw [List.getElem?_map] at h
  by_cases hj : j < n
  · rw [List.getElem?_range hj] at h; simp at h; exact ⟨hj, h.symm⟩
  · rw [List.getElem?_eq_none (by simp; omega)] at h; cases h

theorem cloned_cells {w w' : World} {t : TypeId} {n : Nat} {f : Nat → Value} (h : Cloned w w' t ((List.range n).map f)) :
    (∀ i, i < n → w'.cell? ⟨w.heap.size, i, none⟩ = some (f i)) ∧ (∀ i, w'.frozen? ⟨w.heap.size, i, none⟩ = false) := by
  obtain ⟨h1, _, _⟩ := h
  refine ⟨fun i hi => ?_, fun i => ?_⟩
  · simp [World.cell?, h1, hi]
  · simp [World.frozen?, h1]

theorem clone11_pos (ad : Addr) (n c : Nat) (h : n ≤ 1048576) (O : Nat → Int) (w : World) (hc : ∀ i, i < n → w.cell? (ad.add i) = some (.int .i32 (O i))) :
    Calls Try.prog 11 #[.slice (some ad) n c] w fun e w' => e = .returned (.slice (some ⟨w.heap.size, 0, none⟩) n n) ∧ Below w.heap.size w w' ∧ w'.heap.size = w.heap.size + 1 ∧
      (∀ i, i < n → w'.cell? ⟨w.heap.size, i, none⟩ = some (.int .i32 (O i))) ∧ (∀ i, w'.frozen? ⟨w.heap.size, i, none⟩ = false) := by
  refine (clone11_some ad n c h ((List.range n).map fun i => .int .i32 (O i)) (by simp) (by intro v hv; simp at hv; obtain ⟨_, _, rfl⟩ := hv; rfl) w ?_).mono ?_
  · intro j v hj; obtain ⟨h1, rfl⟩ := cells_list _ _ _ _ hj; exact hc j h1
  · rintro e w' ⟨rfl, hC⟩
    obtain ⟨c1, c2⟩ := cloned_cells hC
    exact ⟨rfl, hC.2.1, hC.2.2, c1, c2⟩
theorem clone12_pos (ad : Addr) (n c : Nat) (h : n ≤ 1048576) (F : Nat → Bool) (w : World) (hc : ∀ i, i < n → w.cell? (ad.add i) = some (.bool (F i))) :
    Calls Try.prog 12 #[.slice (some ad) n c] w fun e w' => e = .returned (.slice (some ⟨w.heap.size, 0, none⟩) n n) ∧ Below w.heap.size w w' ∧ w'.heap.size = w.heap.size + 1 ∧
      (∀ i, i < n → w'.cell? ⟨w.heap.size, i, none⟩ = some (.bool (F i))) ∧ (∀ i, w'.frozen? ⟨w.heap.size, i, none⟩ = false) := by
  refine (clone12_some ad n c h ((List.range n).map fun i => .bool (F i)) (by simp) (by intro v hv; simp at hv; obtain ⟨_, _, rfl⟩ := hv; rfl) w ?_).mono ?_
  · intro j v hj; obtain ⟨h1, rfl⟩ := cells_list _ _ _ _ hj; exact hc j h1
  · rintro e w' ⟨rfl, hC⟩
    obtain ⟨c1, c2⟩ := cloned_cells hC
    exact ⟨rfl, hC.2.1, hC.2.2, c1, c2⟩

theorem add_at (b off i : Nat) : (⟨b, off, none⟩ : Addr).add i = ⟨b, off + i, none⟩ := by unfold Addr.add; split <;> simp_all

/-- What the order and the free machines look like behind the two clones. -/
theorem seen_of {w2 : World} {g1 g2 lo lf : Nat} {O : Nat → Int} {F : Nat → Bool} (hlo : lo ≤ 65536) (hlf : lf ≤ 65536) (hok : ∀ i, i < lo → 0 ≤ O i ∧ O i < lf)
    (h1 : ∀ i, i < lo → w2.cell? ⟨g1, i, none⟩ = some (.int .i32 (O i))) (h2 : ∀ i, i < lf → w2.cell? ⟨g2, i, none⟩ = some (.bool (F i))) : Seen w2 (some ⟨g1, 0, none⟩) (some ⟨g2, 0, none⟩) lo lf O F :=
  ⟨hlo, hlf, hok, Or.inr ⟨g1, g2, rfl, rfl, h1, h2⟩⟩

theorem after_new {w w2 w3 : World} {lo lf : Nat} {O : Nat → Int} {F : Nat → Bool} {g1 g2 : Nat} (hS : Seen w2 (some ⟨g1, 0, none⟩) (some ⟨g2, 0, none⟩) lo lf O F) (h1 : g1 < w2.heap.size) (h2 : g2 < w2.heap.size)
    (hb : Below w.heap.size w w2) (hg : w2.grownBy w3 none) (hz : w3.heap.size = w2.heap.size + 1) :
    Seen w3 (some ⟨g1, 0, none⟩) (some ⟨g2, 0, none⟩) lo lf O F ∧ (∀ b o, ((some ⟨g1, 0, none⟩ : Option Addr) = some ⟨b, o, none⟩ ∨ (some ⟨g2, 0, none⟩ : Option Addr) = some ⟨b, o, none⟩) → b ≠ w2.heap.size ∧ b < w3.heap.size) ∧ Below w.heap.size w w3 := by
  have key : ∀ b o, ((some ⟨g1, 0, none⟩ : Option Addr) = some ⟨b, o, none⟩ ∨ (some ⟨g2, 0, none⟩ : Option Addr) = some ⟨b, o, none⟩) → b < w2.heap.size := by
    rintro b o (h | h)
    · simp at h; omega
    · simp at h; omega
  refine ⟨hS.of_block (fun b o h => hg.block b (key b o h) (by simp)), fun b o h => ?_, hb.grown hg hb.size (by simp)⟩
  have := key b o h; omega

set_option maxHeartbeats 1000000 in
theorem find_same (b off lo c0 : Nat) (ad1 : Addr) (lf c1 : Nat) (O : Nat → Int) (F : Nat → Bool) (s : Nat) (ev : Int) (w : World) (h0 : 0 < lo) (hlo : lo ≤ 65536) (hlf : lf ≤ 65536) (hsum : 4 * lo + lf ≤ 1048576)
    (ho : ∀ i, i < lo → w.cell? ⟨b, off + i, none⟩ = some (.int .i32 (O i))) (hf : ∀ i, i < lf → w.cell? (ad1.add i) = some (.bool (F i))) (hok : ∀ i, i < lo → 0 ≤ O i ∧ O i < lf) (hslo : s < lo) :
    Calls Try.prog 5 #[.slice (some ⟨b, off, none⟩) lo c0, .int .i64 (s : Int), .int .i64 ev, .int .i64 ev, .slice (some ad1) lf c1] w fun e w' => e = .returned (.bool true) ∧ Below w.heap.size w w' := by
  have Ho := hide ho
  have Hf := hide hf
  have Hok := hide hok
  have HC1 := hide (clone11_pos ⟨b, off, none⟩ lo c0 (by omega) O w (fun i hi => by rw [add_at]; exact ho i hi))
  have HB := hide (bytes10_true (some ⟨b, off, none⟩) (some ad1) lo lf c0 c1 s ev ev (by omega) w)
  have hsum' : 4 * (lo : Int) + (lf : Int) ≤ 1048576 := by omega
  have hee : (ev == ev) = true := by simp
  clear ho hf hok
  go_enter Try.func5, Try.ntmps5
  go_wp2_with fail
  refine (unhide HB).mono ?_
  rintro e w' ⟨rfl, hw⟩
  have hw := hw.symm
  subst hw
  go_wp2_with fail
  go_loop [11] (fun v => ∃ k : Nat, k ≤ lo ∧ v = .int .i64 (k : Int)) (fun v => lo - (intOf v).toNat)
  case atStart => exact ⟨0, Nat.zero_le _, rfl⟩
  case round =>
    obtain ⟨k, hk, rfl⟩ := hrel
    by_cases hlt : k < lo
    · have hc := unhide Ho k hlt
      obtain ⟨o1, o2⟩ := unhide Hok k hlt
      have hn : ¬ O k < 0 := by omega
      have hlt' : (k : Int) < (lo : Int) := by omega
      go_wp2_with fail
      go_round
      case rel => exact ⟨k + 1, by omega, by go_num⟩
      case measure => simp [intOf]; omega
    · have hlt' : ¬ (k : Int) < (lo : Int) := by omega
      clear hk hlt
      go_wp2_with fail
      refine (unhide HC1).mono ?_
      rintro e w1 ⟨rfl, hb1, hz1, hc1, _⟩
      have Hb1 := hide hb1
      have Hz1 := hide hz1
      have Hc1 := hide hc1
      clear hb1 hz1 hc1
      go_wp2_with fail
      refine (clone12_pos ad1 lf c1 (by omega) F w1 (fun i hi => ?_)).mono ?_
      · have := unhide Hf i hi
        rw [(unhide Hb1).cell (World.block_lt_of_cell? w _ this)]; exact this
      rintro e w2 ⟨rfl, hb2, hz2, hc2, _⟩
      have e1 : ∀ i, i < lo → w2.cell? ⟨w.heap.size, i, none⟩ = some (.int .i32 (O i)) := fun i hi => by
        rw [hb2.cell (p := ⟨w.heap.size, i, none⟩) (by rw [unhide Hz1]; exact Nat.lt_succ_self _)]; exact unhide Hc1 i hi
      have HS := hide (seen_of hlo hlf (unhide Hok) e1 hc2)
      have Hb2 := hide (((unhide Hb1).trans (hb2.mono (by rw [unhide Hz1]; exact Nat.le_succ _))))
      have Hz2 := hide hz2
      have E1 := hide e1
      have E2 := hide hc2
      clear hb2 hz2 hc2 e1 Hf Ho HC1 HB Hc1
      have hsl : (s : Int) < (lo : Int) := by omega
      go_wp2_with fail
      go_loop [13, 14] (fun wt i => ∃ (j : Int) (m : Nat), Hid (j + 1 = (m : Int)) ∧ s ≤ m ∧ m ≤ lo ∧ i = .int .i64 j ∧ wt = .int .i64 (Sc.scan (freeAt O F) lo m : Nat)) (fun _ i => (intOf i + 1).toNat)
      case atStart => exact ⟨(lo : Int) - 1, lo, by show _ = _; omega, by omega, Nat.le_refl _, rfl, by rw [Sc.scan_stop (Nat.le_refl lo)]⟩
      case round =>
        obtain ⟨j, m, hj, hsm, hml, rfl, rfl⟩ := hrel
        by_cases hlt : s < m
        · obtain ⟨m, rfl⟩ : ∃ m', m = m' + 1 := ⟨m - 1, by omega⟩
          obtain rfl : j = (m : Int) := by have := unhide hj; omega
          have hoi := unhide E1 m (by omega)
          obtain ⟨o1, o2⟩ := unhide Hok m (by omega)
          have hfi := unhide E2 (O m).toNat (by omega)
          have hsm' : (s : Int) ≤ (m : Int) := by omega
          have hml' : (m : Int) < (lo : Int) := by omega
          cases hp : F (O m).toNat with
          | true =>
            rw [hp] at hfi
            have hfin := hide (Sc.scan_hit (P := freeAt O F) (n := lo) (s := m) (by omega) hp)
            clear hp
            go_wp2_with fail
            go_round
            case rel => exact ⟨(m : Int) - 1, m, by show _ = _; omega, by omega, by omega, rfl, by rw [unhide hfin]⟩
            case measure => simp [intOf]
          | false =>
            rw [hp] at hfi
            have hfin := hide (Sc.scan_miss (P := freeAt O F) (n := lo) (s := m) (by omega) hp)
            clear hp
            go_wp2_with fail
            go_round
            case rel => exact ⟨(m : Int) - 1, m, by show _ = _; omega, by omega, by omega, rfl, by rw [unhide hfin]⟩
            case measure => simp [intOf]
        · obtain rfl : m = s := by omega
          have hjl : ¬ (m : Int) ≤ j := by have := unhide hj; omega
          clear hlt hsm hml
          go_wp2_with fail
          refine (zznew_any (some ⟨w.heap.size, 0, none⟩) lo lo m ev w2).mono ?_
          rintro e w3 ⟨rfl, hR, hg3, hz3⟩
          obtain ⟨hS3, hak3, hb3⟩ := after_new (w := w) (unhide HS) (by rw [unhide Hz2, unhide Hz1]; omega) (by rw [unhide Hz2]; omega) (unhide Hb2) hg3 hz3
          have HN := hide (zznext_any w2.heap.size _ _ lo lf lo lf O F m ev ev m (Or.inl ⟨rfl, rfl⟩) w3 hS3 hR hak3)
          have Hb3 := hide hb3
          have Hle : Hid (w.heap.size ≤ w2.heap.size) := (unhide Hb2).size
          clear hR hg3 hz3 hS3 hak3 hb3
          go_wp2_with fail
          refine (unhide HN).mono ?_
          rintro e w4 ⟨rfl, hR4, hg4⟩
          have Hb4 := hide ((unhide Hb3).grown hg4 (unhide Hb3).size (fun k e => by cases e; exact unhide Hle))
          have HH := hide (zzhead_any w2.heap.size _ _ w4 hR4.c4 hR4.c5)
          clear hR4 hg4
          go_wp2_with fail
          refine (unhide HH).mono ?_
          rintro e w5 ⟨rfl, n5, rfl⟩
          go_wp2_with fail
          go_ret
          exact ⟨rfl, below_drewN (unhide Hb4) _⟩
end Go.Proofs.Qxb6605639a.Nx
