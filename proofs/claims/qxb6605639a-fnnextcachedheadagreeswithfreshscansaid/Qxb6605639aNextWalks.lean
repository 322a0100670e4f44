/-
  THE WALKS of the small functions that the two laws of 'next' go through: the length checks, the two clones.
-/
import Derived.Test.Qxb6605639aRows
import Derived.WalkKit
import Derived.WalkSpells
import Derived.WalkLawsBesides
import Derived.Outline
import Derived.BigQuiet
import Derived.Deep.QuietTactic
import Derived.Laws.CopyOwn
import Derived.Lib.SliceRun
namespace Go.Proofs.Qxb6605639a.Nx
open Go.RowKit

theorem hide {p : Prop} (h : p) : Hid p := h
theorem unhide {p : Prop} (h : Hid p) : p := h

theorem wpList_build {P : Program} {ops : Array Oper} {rest : List Oper} {o : Oper} {a : Act} {w : World} {Q : Exit → Act → World → Prop} (hgd : o.guard = none) (ty : TypeId) (parts : Array (Nat × Operand)) (ho : o.op = .build ty parts)
    (vals : Array (Nat × Value)) (hv : (parts.map fun (i, x) => (i, a.eval x)) = vals) (v : Value) (hrun : (Instr.build ty vals).run P w = .ok v w)
    (h : wpList P ops Q rest (a.put o.dst v) w) : wpList P ops Q (o :: rest) a w :=
  wpList_plain hgd fun K hK => by
    unfold Oper.wp execOp
    simp only [ho, hv, Sem.run_bind, hrun, Result.andThen_ok, Sem.run_pure]
    exact hK _ _ h

/-! ### The length checks -/
set_option maxHeartbeats 400000 in
theorem bytes10_true (a0 a1 : Option Addr) (lo lf c0 c1 : Nat) (x y z : Int) (h : lo + lf ≤ 1048576) (w : World) :
    Calls Try.prog 10 #[.slice a0 lo c0, .int .i64 x, .int .i64 y, .int .i64 z, .slice a1 lf c1] w fun e w' => e = .returned (.bool true) ∧ w' = w := by
  have h1 : (lo : Int) ≤ 1048576 := by omega
  have h2 : (lf : Int) ≤ 1048576 := by omega
  have h3 : (lo : Int) + (lf : Int) ≤ 1048576 := by omega
  go_enter Try.func10, Try.ntmps10
  go_wp2
  go_ret
  exact ⟨rfl, rfl⟩
set_option maxHeartbeats 400000 in
theorem bytes10_false (a0 a1 : Option Addr) (lo lf c0 c1 : Nat) (x y z : Int) (h : 1048576 < lo + lf) (w : World) :
    Calls Try.prog 10 #[.slice a0 lo c0, .int .i64 x, .int .i64 y, .int .i64 z, .slice a1 lf c1] w fun e w' => e = .returned (.bool false) ∧ w' = w := by
  by_cases h1 : (1048576 : Int) < (lo : Int)
  · go_enter Try.func10, Try.ntmps10
    go_wp2
    go_ret
    exact ⟨rfl, rfl⟩
  · by_cases h2 : (1048576 : Int) < (lf : Int)
    · go_enter Try.func10, Try.ntmps10
      go_wp2
      go_ret
      exact ⟨rfl, rfl⟩
    · have h3 : (1048576 : Int) < (lo : Int) + (lf : Int) := by omega
      go_enter Try.func10, Try.ntmps10
      go_wp2
      go_ret
      exact ⟨rfl, rfl⟩
set_option maxHeartbeats 400000 in
theorem bytes16_true (a0 a1 : Option Addr) (lo lf c0 c1 : Nat) (x y : Int) (h : lo + lf ≤ 1048576) (w : World) :
    Calls Try.prog 16 #[.slice a0 lo c0, .int .i64 x, .int .i64 y, .slice a1 lf c1] w fun e w' => e = .returned (.bool true) ∧ w' = w := by
  have h1 : (lo : Int) ≤ 1048576 := by omega
  have h2 : (lf : Int) ≤ 1048576 := by omega
  have h3 : (lo : Int) + (lf : Int) ≤ 1048576 := by omega
  go_enter Try.func16, Try.ntmps16
  go_wp2
  go_ret
  exact ⟨rfl, rfl⟩
set_option maxHeartbeats 400000 in
theorem bytes16_false (a0 a1 : Option Addr) (lo lf c0 c1 : Nat) (x y : Int) (h : 1048576 < lo + lf) (w : World) :
    Calls Try.prog 16 #[.slice a0 lo c0, .int .i64 x, .int .i64 y, .slice a1 lf c1] w fun e w' => e = .returned (.bool false) ∧ w' = w := by
  by_cases h1 : (1048576 : Int) < (lo : Int)
  · go_enter Try.func16, Try.ntmps16
    go_wp2
    go_ret
    exact ⟨rfl, rfl⟩
  · by_cases h2 : (1048576 : Int) < (lf : Int)
    · go_enter Try.func16, Try.ntmps16
      go_wp2
      go_ret
      exact ⟨rfl, rfl⟩
    · have h3 : (1048576 : Int) < (lo : Int) + (lf : Int) := by omega
      go_enter Try.func16, Try.ntmps16
      go_wp2
      go_ret
      exact ⟨rfl, rfl⟩

/-! ### The clones -/
theorem info21 : (Try.prog.info? 21).map (fun i => (i.zero, i.size, i.bytes)) = some (some (.int .i32 0), 1, 4) := by kernel_rfl
theorem info4 : (Try.prog.info? 4).map (fun i => (i.zero, i.size, i.bytes)) = some (some (.bool false), 1, 1) := by kernel_rfl
theorem size21 : (Try.prog.info? 21).map (·.size) = some 1 := by kernel_rfl
theorem size4 : (Try.prog.info? 4).map (·.size) = some 1 := by kernel_rfl

theorem make21 (n : Nat) (h : n ≤ 1048576) (w : World) : (Instr.makeSlice 28 (.int .i64 (n : Int)) (.int .i64 (n : Int))).run Try.prog w =
    .ok (.slice (some ⟨w.heap.size, 0, none⟩) n n) (w.alloc (.cells (madeCells #[.int .i32 0] n) 21)) := by
  obtain ⟨i0, hi, hz0, hz1, hz2⟩ := info_parts info21
  have := run_make (P := Try.prog) w 28 21 i0 (.int .i32 0) Try.underlying28 hi hz0 .i64 .i64 n n (by omega) (by omega) (by rw [hz2]; omega) (by omega)
  rw [hz1, Nat.mul_one, Int.toNat_natCast] at this
  exact this
theorem make4 (n : Nat) (h : n ≤ 1048576) (w : World) : (Instr.makeSlice 29 (.int .i64 (n : Int)) (.int .i64 (n : Int))).run Try.prog w =
    .ok (.slice (some ⟨w.heap.size, 0, none⟩) n n) (w.alloc (.cells (madeCells #[.bool false] n) 4)) := by
  obtain ⟨i0, hi, hz0, hz1, hz2⟩ := info_parts info4
  have := run_make (P := Try.prog) w 29 4 i0 (.bool false) Try.underlying29 hi hz0 .i64 .i64 n n (by omega) (by omega) (by rw [hz2]; omega) (by omega)
  rw [hz1, Nat.mul_one, Int.toNat_natCast] at this
  exact this

set_option maxHeartbeats 400000 in
theorem clone11_nil (w : World) : Calls Try.prog 11 #[.slice none 0 0] w fun e w' => e = .returned (.slice none 0 0) ∧ w' = w := by
  have hq := fun w => Lib.run_eql_slice_nil (P := Try.prog) w 28 21 none 0 0 0 0 Try.underlying28
  go_enter Try.func11, Try.ntmps11
  go_wp2
  go_ret
  exact ⟨rfl, rfl⟩
set_option maxHeartbeats 400000 in
theorem clone12_nil (w : World) : Calls Try.prog 12 #[.slice none 0 0] w fun e w' => e = .returned (.slice none 0 0) ∧ w' = w := by
  have hq := fun w => Lib.run_eql_slice_nil (P := Try.prog) w 29 4 none 0 0 0 0 Try.underlying29
  go_enter Try.func12, Try.ntmps12
  go_wp2
  go_ret
  exact ⟨rfl, rfl⟩

/-- What a clone leaves: one block more, with the cells. -/
def Cloned (w w' : World) (t : TypeId) (cs : List Value) : Prop := w'.heap[w.heap.size]? = some (.cells cs.toArray t (0, 0)) ∧ Below w.heap.size w w' ∧ w'.heap.size = w.heap.size + 1

theorem cloned_of (w : World) (t : TypeId) (z : Array Value) (cs : List Value) (h : z.size = cs.length) :
    Cloned w ((w.alloc (.cells z t)).setRow w.heap.size (cs ++ z.toList.drop cs.length).toArray) t cs := by
  have e : cs ++ z.toList.drop cs.length = cs := by
    rw [List.drop_of_length_le (by simp [h]), List.append_nil]
  rw [e]
  have hh : (w.alloc (.cells z t)).heap[w.heap.size]? = some (.cells z t (0, 0)) := heap_alloc_new w _
  refine ⟨setRow_heap (w.alloc (.cells z t)) w.heap.size z _ t _ hh, ?_, ?_⟩
  · exact below_setRow ((Below.refl _ _).alloc (Nat.le_refl _) _) (Nat.le_refl _) _
  · simp [World.setRow]

set_option maxHeartbeats 400000 in
theorem clone11_some (ad : Addr) (n c : Nat) (h : n ≤ 1048576) (cs : List Value) (hn : cs.length = n) (h1 : ∀ v ∈ cs, v.oneCell' = true) (w : World) (hsrc : ∀ j v, cs[j]? = some v → w.cell? (ad.add j) = some v) :
    Calls Try.prog 11 #[.slice (some ad) n c] w fun e w' => e = .returned (.slice (some ⟨w.heap.size, 0, none⟩) n n) ∧ Cloned w w' 21 cs := by
  have hq := fun w => Lib.run_eql_slice_nil (P := Try.prog) w 28 21 (some ad) n c 0 0 Try.underlying28
  have hm := make21 n h
  have Hn := hide hn
  have H1 := hide h1
  have Hs := hide hsrc
  clear hn h1 hsrc
  go_enter Try.func11, Try.ntmps11
  go_wp2_with (refine wpList_copy_own rfl (.tmp 9) (.tmp 10) 28 28 rfl 21 Try.underlying28 size21 w.heap.size 0 n n ad n c rfl rfl (madeCells #[.int .i32 0] n) 21 ?hg cs ?hn ?hs ?hf (unhide H1) ?_)
  case hg => exact heap_alloc_new w _
  case hn => rw [unhide Hn]; simp
  case hs =>
    intro j v hj
    have hc := unhide Hs j v hj
    rw [World.cell?_alloc_lt _ _ _ (World.block_lt_of_cell? w _ hc)]; exact hc
  case hf => rw [size_madeCells, unhide Hn]; omega
  go_wp2_with fail
  go_ret
  exact ⟨rfl, cloned_of w 21 (madeCells #[.int .i32 0] n) cs (by rw [size_madeCells, unhide Hn])⟩
set_option maxHeartbeats 400000 in
theorem clone12_some (ad : Addr) (n c : Nat) (h : n ≤ 1048576) (cs : List Value) (hn : cs.length = n) (h1 : ∀ v ∈ cs, v.oneCell' = true) (w : World) (hsrc : ∀ j v, cs[j]? = some v → w.cell? (ad.add j) = some v) :
    Calls Try.prog 12 #[.slice (some ad) n c] w fun e w' => e = .returned (.slice (some ⟨w.heap.size, 0, none⟩) n n) ∧ Cloned w w' 4 cs := by
  have hq := fun w => Lib.run_eql_slice_nil (P := Try.prog) w 29 4 (some ad) n c 0 0 Try.underlying29
  have hm := make4 n h
  have Hn := hide hn
  have H1 := hide h1
  have Hs := hide hsrc
  clear hn h1 hsrc
  go_enter Try.func12, Try.ntmps12
  go_wp2_with (refine wpList_copy_own rfl (.tmp 9) (.tmp 10) 29 29 rfl 4 Try.underlying29 size4 w.heap.size 0 n n ad n c rfl rfl (madeCells #[.bool false] n) 4 ?hg cs ?hn ?hs ?hf (unhide H1) ?_)
  case hg => exact heap_alloc_new w _
  case hn => rw [unhide Hn]; simp
  case hs =>
    intro j v hj
    have hc := unhide Hs j v hj
    rw [World.cell?_alloc_lt _ _ _ (World.block_lt_of_cell? w _ hc)]; exact hc
  case hf => rw [size_madeCells, unhide Hn]; omega
  go_wp2_with fail
  go_ret
  exact ⟨rfl, cloned_of w 4 (madeCells #[.bool false] n) cs (by rw [size_madeCells, unhide Hn])⟩
end Go.Proofs.Qxb6605639a.Nx
