/-
  THE WALKS of 'untilDeadline', 'side', 'ZZside'.
-/
import Derived.Test.Qxb6605639aSideWalks
namespace Go.Proofs.Qxb6605639a
open Go.RowKit

set_option maxHeartbeats 400000 in
theorem until_any (s j r : Nat) (D N : Int) (w : World) (h1 : w.cell? ⟨j, 0, none⟩ = some (.pointer (some ⟨r, 0, none⟩))) (h2 : w.cell? ⟨r, 3, none⟩ = some (.int .i64 D))
    (h3 : w.cell? ⟨s, 22, none⟩ = some (.int .i64 N)) (b1 : -9007199254740992 ≤ D - N) (b2 : D - N ≤ 9007199254740992) :
    Calls Try.prog 20 #[.pointer (some ⟨s, 0, none⟩), .pointer (some ⟨j, 0, none⟩)] w fun e w' => e = .returned (.float .f64 (floatOfInt .f64 (D - N))) ∧ ∃ n, w' = w.drewN n := by
  go_enter Try.func20, Try.ntmps20
  go_wp2_with fail
  go_quiet (fail)
  go_wp2_with fail
  go_ret
  exact ⟨rfl, nq, rfl⟩

/-- The walk's own reckoning of the side. -/
def sideR (c : Int) : Int := if c = -1 then 1 else if c = 1 then 2 else 0
theorem sideR_cmp (E F : Nat) : sideR (cmpR E F) = Fl.sideOf E F := by
  unfold cmpR Fl.sideOf
  cases Fl.fs E F <;> cases Fl.fs F E <;> rfl
theorem cmpR_range (E F : Nat) : cmpR E F = -1 ∨ cmpR E F = 1 ∨ cmpR E F = 0 := by
  unfold cmpR
  cases Fl.fs E F <;> cases Fl.fs F E <;> simp

set_option maxHeartbeats 400000 in
theorem side_any (s j r : Nat) (D N : Int) (E : Nat) (k : Int) (w : World) (h1 : w.cell? ⟨j, 0, none⟩ = some (.pointer (some ⟨r, 0, none⟩))) (h2 : w.cell? ⟨r, 3, none⟩ = some (.int .i64 D))
    (h3 : w.cell? ⟨s, 22, none⟩ = some (.int .i64 N)) (b1 : -9007199254740992 ≤ D - N) (b2 : D - N ≤ 9007199254740992) (l1 : j < w.heap.size) (l2 : r < w.heap.size) (l3 : s < w.heap.size) :
    Calls Try.prog 17 #[.pointer (some ⟨s, 0, none⟩), .agg #[.pointer (some ⟨j, 0, none⟩), .int .i64 k, .float .f64 E]] w fun e w' =>
      e = .returned (.int .i64 (Fl.sideOf E (floatOfInt .f64 (D - N)))) ∧ ∃ n c, w' = (w.alloc (.cells c 122)).drewN n := by
  rw [← sideR_cmp]
  have hcmp := hide (cmp_any E (floatOfInt .f64 (D - N)))
  have hr := cmpR_range E (floatOfInt .f64 (D - N))
  generalize cmpR E (floatOfInt .f64 (D - N)) = c at *
  rcases hr with rfl | rfl | rfl
  all_goals
    go_enter Try.func17, Try.ntmps17
    go_wp2_with fail
    go_quiet (first
      | (go_at_call 20; refine Calls.quiet_of (until_any s j r D N _ (by simp [World.cell?_alloc_past, *]) (by simp [World.cell?_alloc_past, *]) (by simp [World.cell?_alloc_past, *]) b1 b2))
      | (go_at_call 19; exact Calls.quiet_of (unhide hcmp _)))
    go_wp2_with fail
    go_ret
    exact ⟨rfl, nq, _, rfl⟩

set_option maxRecDepth 100000 in
set_option maxHeartbeats 400000 in
theorem zside_any (a b : Int) (E : Nat) (w : World) (b1 : -9007199254740992 ≤ b - a) (b2 : b - a ≤ 9007199254740992) :
    Calls Try.prog 8 #[.int .i64 a, .int .i64 b, .float .f64 E] w fun e w' => e = .returned (.int .i64 (Fl.sideOf E (floatOfInt .f64 (b - a)))) ∧ Grown w w' := by
  obtain ⟨Z, hZ, hs, hc⟩ := sim_built a
  go_enter Try.func8, Try.ntmps8
  go_wp2_with (refine wpList_build rfl 109 _ rfl #[(4, .int .i64 a)] ?hv _ (hZ _) ?_; (case hv => simp [Act.eval, go_sem]))
  refine (side_any w.heap.size (w.heap.size + 1 + 1) (w.heap.size + 1) b a E 0 _ ?_ ?_ ?_ b1 b2 ?_ ?_ ?_).mono ?_
  · simp [go_sem]
  · simp [go_sem]
  · simp [go_sem, hc]
  · simp
  · simp
  · simp; omega
  rintro e w' ⟨rfl, n, c, rfl⟩
  go_wp2_with fail
  go_ret
  exact ⟨rfl, by repeat (first | exact Grown.refl _ | apply Grown.drew | apply Grown.alloc)⟩
end Go.Proofs.Qxb6605639a
