/-
  THE WALKS of 'ZZnext', 'ZZrankingHead'.
-/
import Derived.Test.Qxb6605639aNextWalks2
namespace Go.Proofs.Qxb6605639a.Nx
open Go.RowKit

/-- The ranking at block k: its order, its head, the event of its head; the two fields may be written. -/
structure Rk (w : World) (k : Nat) (ao : Option Addr) (lo co : Nat) (hd ev : Int) : Prop where
  c0 : w.cell? ⟨k, 0, none⟩ = some (.slice ao lo co)
  c4 : w.cell? ⟨k, 4, none⟩ = some (.int .i64 hd)
  c5 : w.cell? ⟨k, 5, none⟩ = some (.int .i64 ev)
  f4 : w.frozen? ⟨k, 4, none⟩ = false
  f5 : w.frozen? ⟨k, 5, none⟩ = false

theorem Rk.lt {w : World} {k : Nat} {ao : Option Addr} {lo co : Nat} {hd ev : Int} (h : Rk w k ao lo co hd ev) : k < w.heap.size := World.block_lt_of_cell? w ⟨k, 0, none⟩ h.c0

/-- A world that has the same blocks where it matters. -/
theorem Rk.of_block {w w' : World} {k : Nat} {ao : Option Addr} {lo co : Nat} {hd ev : Int} (h : Rk w k ao lo co hd ev) (hb : w'.heap[k]? = w.heap[k]?) : Rk w' k ao lo co hd ev :=
  ⟨(World.cell?_of_block (w := w) hb).trans h.c0, (World.cell?_of_block (w := w) hb).trans h.c4, (World.cell?_of_block (w := w) hb).trans h.c5, (World.frozen?_of_block (w := w) hb).trans h.f4, (World.frozen?_of_block (w := w) hb).trans h.f5⟩

theorem Seen.of_block {w w' : World} {ao af : Option Addr} {lo lf : Nat} {O : Nat → Int} {F : Nat → Bool} (h : Seen w ao af lo lf O F)
    (hb : ∀ b o, (ao = some ⟨b, o, none⟩ ∨ af = some ⟨b, o, none⟩) → w'.heap[b]? = w.heap[b]?) : Seen w' ao af lo lf O F := by
  refine ⟨h.lo_le, h.lf_le, h.ok, ?_⟩
  rcases h.rows with h0 | ⟨bo, bf, e1, e2, ho, hf⟩
  · exact Or.inl h0
  · exact Or.inr ⟨bo, bf, e1, e2, fun i hi => (World.cell?_of_block (w := w) (hb bo 0 (Or.inl e1))).trans (ho i hi), fun i hi => (World.cell?_of_block (w := w) (hb bf 0 (Or.inr e2))).trans (hf i hi)⟩

theorem room_built (ev : Int) (af : Option Addr) (lf cf : Nat) : ∃ Z : Array Value, (∀ w, (Instr.build 102 #[(18, .int .i64 ev), (11, .slice af lf cf)]).run Try.prog w = .ok (.agg Z) w) ∧ Z[11]? = some (.slice af lf cf) ∧ Z[18]? = some (.int .i64 ev) :=
  ⟨((((Try.prog.info? 102).bind (·.zero)).getD undef).cells.setIfInBounds 18 (.int .i64 ev)).setIfInBounds 11 (.slice af lf cf), fun _ => by kernel_rfl, by kernel_rfl, by kernel_rfl⟩

theorem grownBy_trans {a b c : World} {row : Option Nat} (h1 : a.grownBy b row) (h2 : b.grownBy c row) : a.grownBy c row :=
  ⟨h2.os.trans h1.os, h2.tape.trans h1.tape, h2.output.trans h1.output, Nat.le_trans h1.size h2.size, fun k hk hr => (h2.block k (Nat.lt_of_lt_of_le hk h1.size) hr).trans (h1.block k hk hr)⟩
theorem grownBy_setCell (w : World) (a : Addr) (v : Value) : w.grownBy (w.setCell a v) (some a.block) :=
  ⟨rfl, rfl, rfl, by simp [World.setCell], fun k _ hr => Below.heap_setCell _ _ _ _ (fun e => hr (by rw [e]))⟩
theorem grownBy_drewN (w : World) (n : Nat) (row : Option Nat) : w.grownBy (w.drewN n) row := ⟨rfl, rfl, rfl, Nat.le_refl _, fun _ _ _ => rfl⟩

set_option maxHeartbeats 1000000 in
theorem zznext_any (k : Nat) (ao af : Option Addr) (lo lf co cf : Nat) (O : Nat → Int) (F : Nat → Bool) (hd hev ev : Int) (s : Nat) (hs : hev = ev ∧ hd = (s : Int) ∨ hev ≠ ev ∧ s = 0) (w : World) (hS : Seen w ao af lo lf O F) (hR : Rk w k ao lo co hd hev)
    (hak : ∀ b o, (ao = some ⟨b, o, none⟩ ∨ af = some ⟨b, o, none⟩) → b ≠ k ∧ b < w.heap.size) :
    Calls Try.prog 14 #[.pointer (some ⟨k, 0, none⟩), .int .i64 ev, .slice af lf cf] w fun e w' => e = .returned (.int .i64 (Sc.scan (freeAt O F) lo s : Nat)) ∧
      Rk w' k ao lo co (Sc.scan (freeAt O F) lo s : Nat) ev ∧ w.grownBy w' (some k) := by
  obtain ⟨Z, hZ, z11, z18⟩ := room_built ev af lf cf
  have hlt := hR.lt
  have hb : ∀ b, b < w.heap.size → (w.alloc (.cells Z 102)).heap[b]? = w.heap[b]? := fun b h => Below.heap_alloc _ _ _ h
  have hR1 : Rk (w.alloc (.cells Z 102)) k ao lo co hd hev := hR.of_block (hb k hlt)
  have hS1 : Seen (w.alloc (.cells Z 102)) ao af lo lf O F := hS.of_block (fun b o h => hb b (hak b o h).2)
  have r11 : (w.alloc (.cells Z 102)).cell? ⟨w.heap.size, 11, none⟩ = some (.slice af lf cf) := by rw [World.cell?_alloc_new]; exact z11
  have r18 : (w.alloc (.cells Z 102)).cell? ⟨w.heap.size, 18, none⟩ = some (.int .i64 ev) := by rw [World.cell?_alloc_new]; exact z18
  have hg : w.grownBy (w.alloc (.cells Z 102)) (some k) := World.grownBy_alloc w _ _
  have H : Hid (Calls Try.prog 18 #[.pointer (some ⟨k, 0, none⟩), .pointer (some ⟨w.heap.size, 0, none⟩)] (w.alloc (.cells Z 102)) fun e w' => e = .returned (.int .i64 (Sc.scan (freeAt O F) lo s : Nat)) ∧
      Rk w' k ao lo co (Sc.scan (freeAt O F) lo s : Nat) ev ∧ w.grownBy w' (some k)) := by
    generalize w.alloc (.cells Z 102) = W at *
    have n04 : (⟨k, 4, none⟩ : Addr) ≠ ⟨k, 0, none⟩ := by simp
    have n45 : (⟨k, 4, none⟩ : Addr) ≠ ⟨k, 5, none⟩ := by simp
    have n50 : (⟨k, 5, none⟩ : Addr) ≠ ⟨k, 0, none⟩ := by simp
    rcases hs with ⟨rfl, rfl⟩ | ⟨hne, rfl⟩
    · refine (next_same k w.heap.size ao af lo lf co cf O F s hev W hS1 hR1.c0 hR1.c4 hR1.c5 hR1.f4 r11 r18).mono ?_
      rintro e w' ⟨rfl, n, rfl⟩
      refine ⟨rfl, ⟨?_, ?_, ?_, ?_, ?_⟩, grownBy_trans hg (grownBy_trans (grownBy_setCell W ⟨k, 4, none⟩ _) (grownBy_drewN _ _ _))⟩
      · rw [World.cell?_drewN, World.cell?_setCell_other _ _ _ _ n04]; exact hR1.c0
      · rw [World.cell?_drewN]; exact World.cell?_setCell_same _ _ _ hR1.c4
      · rw [World.cell?_drewN, World.cell?_setCell_other _ _ _ _ n45]; exact hR1.c5
      · rw [World.frozen?_drewN, World.frozen?_setCell]; exact hR1.f4
      · rw [World.frozen?_drewN, World.frozen?_setCell]; exact hR1.f5
    · refine (next_other k w.heap.size ao af lo lf co cf O F hd hev ev (by rw [bne_iff_ne]; exact hne) W hS1 hR1.c0 hR1.c4 hR1.c5 hR1.f4 hR1.f5 r11 r18 (fun b o h => (hak b o h).1)).mono ?_
      rintro e w' ⟨rfl, n, rfl⟩
      have q4 : ((W.setCell ⟨k, 4, none⟩ (.int .i64 0)).setCell ⟨k, 5, none⟩ (.int .i64 ev)).cell? ⟨k, 4, none⟩ = some (.int .i64 0) := by
        rw [World.cell?_setCell_other _ _ _ _ (Ne.symm n45)]; exact World.cell?_setCell_same _ _ _ hR1.c4
      have q5 : ((W.setCell ⟨k, 4, none⟩ (.int .i64 0)).setCell ⟨k, 5, none⟩ (.int .i64 ev)).cell? ⟨k, 5, none⟩ = some (.int .i64 ev) := by
        refine World.cell?_setCell_same _ _ _ (u := .int .i64 hev) ?_
        rw [World.cell?_setCell_other _ _ _ _ n45]; exact hR1.c5
      refine ⟨rfl, ⟨?_, ?_, ?_, ?_, ?_⟩, grownBy_trans hg (grownBy_trans (grownBy_setCell W ⟨k, 4, none⟩ _) (grownBy_trans (grownBy_setCell _ ⟨k, 5, none⟩ _) (grownBy_trans (grownBy_setCell _ ⟨k, 4, none⟩ _) (grownBy_drewN _ _ _))))⟩
      · rw [World.cell?_drewN, World.cell?_setCell_other _ _ _ _ n04, World.cell?_setCell_other _ _ _ _ n50, World.cell?_setCell_other _ _ _ _ n04]; exact hR1.c0
      · rw [World.cell?_drewN]; exact World.cell?_setCell_same _ _ _ q4
      · rw [World.cell?_drewN, World.cell?_setCell_other _ _ _ _ n45]; exact q5
      · rw [World.frozen?_drewN, World.frozen?_setCell, World.frozen?_setCell, World.frozen?_setCell]; exact hR1.f4
      · rw [World.frozen?_drewN, World.frozen?_setCell, World.frozen?_setCell, World.frozen?_setCell]; exact hR1.f5
  clear hR1 hS1 r11 r18 hb hg hs hak hS hR hlt z11 z18
  go_enter Try.func14, Try.ntmps14
  go_wp2_with (refine wpList_build rfl 102 _ rfl #[(18, .int .i64 ev), (11, .slice af lf cf)] ?hv _ (hZ _) ?_; (case hv => simp [Act.eval, go_sem]))
  refine (unhide H).mono ?_
  rintro e w' ⟨rfl, h1, h2⟩
  have H1 := hide h1
  have H2 := hide h2
  clear h1 h2
  go_wp2_with fail
  go_ret
  exact ⟨rfl, unhide H1, unhide H2⟩

set_option maxHeartbeats 400000 in
theorem zzhead_any (k : Nat) (hd ev : Int) (w : World) (c4 : w.cell? ⟨k, 4, none⟩ = some (.int .i64 hd)) (c5 : w.cell? ⟨k, 5, none⟩ = some (.int .i64 ev)) :
    Calls Try.prog 15 #[.pointer (some ⟨k, 0, none⟩)] w fun e w' => e = .returned (.tuple #[.int .i64 hd, .int .i64 ev]) ∧ ∃ n, w' = w.drewN n := by
  go_enter Try.func15, Try.ntmps15
  go_wp2_with fail
  go_quiet (fail)
  go_wp2_with fail
  go_ret2
  exact ⟨rfl, nq, rfl⟩

set_option maxHeartbeats 400000 in
theorem zznew_any (ao : Option Addr) (lo co : Nat) (hd ev : Int) (w : World) :
    Calls Try.prog 13 #[.slice ao lo co, .int .i64 hd, .int .i64 ev] w fun e w' => e = .returned (.pointer (some ⟨w.heap.size, 0, none⟩)) ∧ Rk w' w.heap.size ao lo co hd ev ∧ w.grownBy w' none ∧ w'.heap.size = w.heap.size + 1 := by
  go_enter Try.func13, Try.ntmps13
  go_wp2_with fail
  go_ret
  exact ⟨rfl, ⟨by simp [go_sem], by simp [go_sem], by simp [go_sem], by simp [go_sem], by simp [go_sem]⟩, World.grownBy_alloc w _ _, by simp⟩
end Go.Proofs.Qxb6605639a.Nx
