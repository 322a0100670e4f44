/-
  THE WALKS of '(*ranking).next', 'ZZnext', 'ZZrankingHead'.
-/
import Derived.Test.Qxb6605639aNextWalks
import Derived.Test.Qxb6605639aScan
namespace Go.Proofs.Qxb6605639a.Nx
open Go.RowKit

/-- The order and the free machines as 'next' meets them: the two slices, what they hold; every machine of the order lies within 'free'. -/
structure Seen (w : World) (ao af : Option Addr) (lo lf : Nat) (O : Nat → Int) (F : Nat → Bool) : Prop where
  lo_le : lo ≤ 65536
  lf_le : lf ≤ 65536
  ok : ∀ i, i < lo → 0 ≤ O i ∧ O i < lf
  rows : lo = 0 ∨ ∃ bo bf, ao = some ⟨bo, 0, none⟩ ∧ af = some ⟨bf, 0, none⟩ ∧ (∀ i, i < lo → w.cell? ⟨bo, i, none⟩ = some (.int .i32 (O i))) ∧ (∀ i, i < lf → w.cell? ⟨bf, i, none⟩ = some (.bool (F i)))

/-- Is the machine at place i of the order free? -/
def freeAt (O : Nat → Int) (F : Nat → Bool) (i : Nat) : Bool := F (O i).toNat

set_option maxHeartbeats 1000000 in
/-- 'next', within the event: the scan begins at the head. -/
theorem next_same (k r : Nat) (ao af : Option Addr) (lo lf co cf : Nat) (O : Nat → Int) (F : Nat → Bool) (s : Nat) (ev : Int) (w : World) (hS : Seen w ao af lo lf O F)
    (k0 : w.cell? ⟨k, 0, none⟩ = some (.slice ao lo co)) (k4 : w.cell? ⟨k, 4, none⟩ = some (.int .i64 (s : Int))) (k5 : w.cell? ⟨k, 5, none⟩ = some (.int .i64 ev)) (f4 : w.frozen? ⟨k, 4, none⟩ = false)
    (r11 : w.cell? ⟨r, 11, none⟩ = some (.slice af lf cf)) (r18 : w.cell? ⟨r, 18, none⟩ = some (.int .i64 ev)) :
    Calls Try.prog 18 #[.pointer (some ⟨k, 0, none⟩), .pointer (some ⟨r, 0, none⟩)] w fun e w' => e = .returned (.int .i64 (Sc.scan (freeAt O F) lo s : Nat)) ∧ ∃ n, w' = (w.setCell ⟨k, 4, none⟩ (.int .i64 (Sc.scan (freeAt O F) lo s : Nat))).drewN n := by
  obtain ⟨hlo, hlf, hok, hrows⟩ := hS
  have hne : (ev != ev) = false := by simp
  have Hok := hide hok
  clear hok
  rcases hrows with rfl | ⟨bo, bf, rfl, rfl, ho, hf⟩
  · go_enter Try.func18, Try.ntmps18
    go_wp2_with fail
    go_quiet (fail)
    rename Nat => n1
    go_wp2_with fail
    go_quiet (fail)
    rename Nat => n2
    go_wp2_with fail
    go_loop [5] (fun v => v = .int .i64 (s : Int)) (fun _ => 0)
    case atStart => rfl
    case round =>
      subst hrel
      have hd : decide ((s : Int) < 0) = false := by simp
      go_wp2_with fail
      go_ret
      have e : Sc.scan (freeAt O F) 0 s = s := Sc.scan_stop (Nat.zero_le _)
      rw [e]
      exact ⟨rfl, n1 + n2, by simp [World.drewN, World.setCell]⟩
  · have Ho := hide ho
    have Hf := hide hf
    clear ho hf
    go_enter Try.func18, Try.ntmps18
    go_wp2_with fail
    go_quiet (fail)
    rename Nat => n1
    go_wp2_with fail
    go_quiet (fail)
    rename Nat => n2
    go_wp2_with fail
    go_loop [5] (fun v => ∃ i : Nat, v = .int .i64 (i : Int) ∧ s ≤ i ∧ (i ≤ lo ∨ i = s) ∧ Hid (∀ j, s ≤ j → j < i → freeAt O F j = false)) (fun v => lo - (intOf v).toNat)
    case atStart => exact ⟨s, rfl, Nat.le_refl _, Or.inr rfl, fun j h1 h2 => absurd h2 (by omega)⟩
    case round =>
      obtain ⟨i, rfl, hsi, hi, hbef⟩ := hrel
      by_cases hlt : i < lo
      · have hoi := unhide Ho i hlt
        obtain ⟨o1, o2⟩ := unhide Hok i hlt
        have hfi := unhide Hf (O i).toNat (by omega)
        cases hp : F (O i).toNat with
        | true =>
          rw [hp] at hfi
          have hil : (i : Int) < (lo : Int) := by omega
          have hfin : Sc.scan (freeAt O F) lo s = i := Sc.scan_eq hsi (by omega) (unhide hbef) (fun _ => hp)
          have Hfin := hide hfin
          clear hfin hp hi
          go_wp2_with fail
          go_ret
          rw [unhide Hfin]
          exact ⟨rfl, n1 + n2, by simp [World.drewN, World.setCell]⟩
        | false =>
          rw [hp] at hfi
          have hil : (i : Int) < (lo : Int) := by omega
          have Hp := hide hp
          clear hp hi
          go_wp2_with fail
          go_round
          case rel =>
            refine ⟨i + 1, by go_num, by omega, Or.inl (by omega), ?_⟩
            intro j h1 h2
            by_cases e : j = i
            · subst e; exact unhide Hp
            · exact unhide hbef j h1 (by omega)
          case measure => simp [intOf]; omega
      · have hil : ¬ (i : Int) < (lo : Int) := by omega
        have hfin : Sc.scan (freeAt O F) lo s = i := by
          rcases hi with hi | hi
          · exact Sc.scan_eq hsi hi (unhide hbef) (fun h => absurd h hlt)
          · rw [hi]; exact Sc.scan_stop (by omega)
        have Hfin := hide hfin
        clear hfin hi
        go_wp2_with fail
        go_ret
        rw [unhide Hfin]
        exact ⟨rfl, n1 + n2, by simp [World.drewN, World.setCell]⟩

theorem reset_cells (w : World) (n k : Nat) (u4 u5 v4 v5 : Value) (h4 : w.cell? ⟨k, 4, none⟩ = some u4) (h5 : w.cell? ⟨k, 5, none⟩ = some u5) :
    (∀ p : Addr, p ≠ ⟨k, 4, none⟩ → p ≠ ⟨k, 5, none⟩ → (((w.drewN n).setCell ⟨k, 4, none⟩ v4).setCell ⟨k, 5, none⟩ v5).cell? p = w.cell? p) ∧
    (((w.drewN n).setCell ⟨k, 4, none⟩ v4).setCell ⟨k, 5, none⟩ v5).cell? ⟨k, 4, none⟩ = some v4 ∧ (((w.drewN n).setCell ⟨k, 4, none⟩ v4).setCell ⟨k, 5, none⟩ v5).cell? ⟨k, 5, none⟩ = some v5 ∧
    ∀ p : Addr, (((w.drewN n).setCell ⟨k, 4, none⟩ v4).setCell ⟨k, 5, none⟩ v5).frozen? p = w.frozen? p := by
  have ne : (⟨k, 5, none⟩ : Addr) ≠ ⟨k, 4, none⟩ := by simp
  refine ⟨fun p h1 h2 => ?_, ?_, ?_, fun p => ?_⟩
  · rw [World.cell?_setCell_other _ _ _ _ (Ne.symm h2), World.cell?_setCell_other _ _ _ _ (Ne.symm h1)]; rfl
  · rw [World.cell?_setCell_other _ _ _ _ ne]
    exact World.cell?_setCell_same (w := w.drewN n) _ _ h4
  · refine World.cell?_setCell_same _ _ _ (u := u5) ?_
    rw [World.cell?_setCell_other _ _ _ _ (Ne.symm ne)]; exact h5
  · rw [World.frozen?_setCell, World.frozen?_setCell]; rfl

set_option maxHeartbeats 1000000 in
/-- 'next', at another event: the scan begins at 0. -/
theorem next_other (k r : Nat) (ao af : Option Addr) (lo lf co cf : Nat) (O : Nat → Int) (F : Nat → Bool) (hd0 hd1 : Int) (ev : Int) (hne : (hd1 != ev) = true) (w : World) (hS : Seen w ao af lo lf O F)
    (k0 : w.cell? ⟨k, 0, none⟩ = some (.slice ao lo co)) (k4 : w.cell? ⟨k, 4, none⟩ = some (.int .i64 hd0)) (k5 : w.cell? ⟨k, 5, none⟩ = some (.int .i64 hd1)) (f4 : w.frozen? ⟨k, 4, none⟩ = false) (f5 : w.frozen? ⟨k, 5, none⟩ = false)
    (r11 : w.cell? ⟨r, 11, none⟩ = some (.slice af lf cf)) (r18 : w.cell? ⟨r, 18, none⟩ = some (.int .i64 ev)) (hak : ∀ b o, (ao = some ⟨b, o, none⟩ ∨ af = some ⟨b, o, none⟩) → b ≠ k) :
    Calls Try.prog 18 #[.pointer (some ⟨k, 0, none⟩), .pointer (some ⟨r, 0, none⟩)] w fun e w' => e = .returned (.int .i64 (Sc.scan (freeAt O F) lo 0 : Nat)) ∧
      ∃ n, w' = (((w.setCell ⟨k, 4, none⟩ (.int .i64 0)).setCell ⟨k, 5, none⟩ (.int .i64 ev)).setCell ⟨k, 4, none⟩ (.int .i64 (Sc.scan (freeAt O F) lo 0 : Nat))).drewN n := by
  obtain ⟨hlo, hlf, hok, hrows⟩ := hS
  have Hok := hide hok
  clear hok
  have HR := fun n => hide (reset_cells w n k _ _ (.int .i64 0) (.int .i64 ev) k4 k5)
  rcases hrows with rfl | ⟨bo, bf, rfl, rfl, ho, hf⟩
  · clear hak
    go_enter Try.func18, Try.ntmps18
    go_wp2_with fail
    go_quiet (fail)
    rename Nat => n1
    go_wp2_with fail
    obtain ⟨c1, c2, c3, c4⟩ := unhide (HR n1)
    obtain ⟨W2, hW⟩ : ∃ W2, W2 = (((w.drewN n1).setCell ⟨k, 4, none⟩ (.int .i64 0)).setCell ⟨k, 5, none⟩ (.int .i64 ev)) := ⟨_, rfl⟩
    rw [← hW] at c1 c2 c3 c4 ⊢
    have g0 := (c1 ⟨k, 0, none⟩ (by simp) (by simp)).trans k0
    have g11 := (c1 ⟨r, 11, none⟩ (by simp) (by simp)).trans r11
    have g4 := (c4 ⟨k, 4, none⟩).trans f4
    have HW := hide hW
    clear c1 c4 hW k0 k4 k5 f4 f5 r11 r18 HR
    go_quiet (fail)
    rename Nat => n2
    go_wp2_with fail
    go_loop [5] (fun v => v = .int .i64 (0 : Int)) (fun _ => 0)
    case atStart => rfl
    case round =>
      subst hrel
      go_wp2_with fail
      go_ret
      have e : Sc.scan (freeAt O F) 0 0 = 0 := Sc.scan_stop (Nat.zero_le _)
      rw [e]
      exact ⟨rfl, n1 + n2, by rw [unhide HW]; simp [World.drewN, World.setCell, Nat.add_assoc]⟩
  · have nbo := hak bo 0 (Or.inl rfl)
    have nbf := hak bf 0 (Or.inr rfl)
    have Ho := hide ho
    have Hf := hide hf
    clear ho hf hak
    go_enter Try.func18, Try.ntmps18
    go_wp2_with fail
    go_quiet (fail)
    rename Nat => n1
    go_wp2_with fail
    obtain ⟨c1, c2, c3, c4⟩ := unhide (HR n1)
    obtain ⟨W2, hW⟩ : ∃ W2, W2 = (((w.drewN n1).setCell ⟨k, 4, none⟩ (.int .i64 0)).setCell ⟨k, 5, none⟩ (.int .i64 ev)) := ⟨_, rfl⟩
    rw [← hW] at c1 c2 c3 c4 ⊢
    have g0 := (c1 ⟨k, 0, none⟩ (by simp) (by simp)).trans k0
    have g11 := (c1 ⟨r, 11, none⟩ (by simp) (by simp)).trans r11
    have g4 := (c4 ⟨k, 4, none⟩).trans f4
    have HW := hide hW
    have Go := hide (fun i hi => (c1 ⟨bo, i, none⟩ (fun e => nbo (congrArg Addr.block e)) (fun e => nbo (congrArg Addr.block e))).trans (unhide Ho i hi))
    have Gf := hide (fun i hi => (c1 ⟨bf, i, none⟩ (fun e => nbf (congrArg Addr.block e)) (fun e => nbf (congrArg Addr.block e))).trans (unhide Hf i hi))
    clear c1 c4 hW k0 k4 k5 f4 f5 r11 r18 HR Ho Hf nbo nbf
    go_quiet (fail)
    rename Nat => n2
    go_wp2_with fail
    go_loop [5] (fun v => ∃ i : Nat, v = .int .i64 (i : Int) ∧ i ≤ lo ∧ Hid (∀ j, 0 ≤ j → j < i → freeAt O F j = false)) (fun v => lo - (intOf v).toNat)
    case atStart => exact ⟨0, rfl, Nat.zero_le _, fun j h1 h2 => absurd h2 (by omega)⟩
    case round =>
      obtain ⟨i, rfl, hi, hbef⟩ := hrel
      by_cases hlt : i < lo
      · have hoi := unhide Go i hlt
        obtain ⟨o1, o2⟩ := unhide Hok i hlt
        have hfi := unhide Gf (O i).toNat (by omega)
        cases hp : F (O i).toNat with
        | true =>
          rw [hp] at hfi
          have hil : (i : Int) < (lo : Int) := by omega
          have hfin : Sc.scan (freeAt O F) lo 0 = i := Sc.scan_eq (Nat.zero_le _) (by omega) (unhide hbef) (fun _ => hp)
          have Hfin := hide hfin
          clear hfin hp
          go_wp2_with fail
          go_ret
          rw [unhide Hfin]
          exact ⟨rfl, n1 + n2, by rw [unhide HW]; simp [World.drewN, World.setCell, Nat.add_assoc]⟩
        | false =>
          rw [hp] at hfi
          have hil : (i : Int) < (lo : Int) := by omega
          have Hp := hide hp
          clear hp
          go_wp2_with fail
          go_round
          case rel =>
            refine ⟨i + 1, by go_num, by omega, ?_⟩
            intro j h1 h2
            by_cases e : j = i
            · subst e; exact unhide Hp
            · exact unhide hbef j h1 (by omega)
          case measure => simp [intOf]; omega
      · have hil : ¬ (i : Int) < (lo : Int) := by omega
        have hfin : Sc.scan (freeAt O F) lo 0 = i := Sc.scan_eq (Nat.zero_le _) hi (unhide hbef) (fun h => absurd h hlt)
        have Hfin := hide hfin
        clear hfin
        go_wp2_with fail
        go_ret
        rw [unhide Hfin]
        exact ⟨rfl, n1 + n2, by rw [unhide HW]; simp [World.drewN, World.setCell, Nat.add_assoc]⟩
end Go.Proofs.Qxb6605639a.Nx
