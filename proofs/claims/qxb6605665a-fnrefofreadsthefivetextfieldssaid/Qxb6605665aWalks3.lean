/-
  THE WALKS of the objects: made, looked into, counted, taken from.
-/
import Derived.Test.Qxb6605665aWalks2
namespace Go.Proofs.Qxb6605665a
open Go.RowKit Mp

/-! ### The map operations as laws of the walk -/
section
variable {ops : Array Oper} {rest : List Oper} {o : Oper} {a : Act} {w : World} {Q : Exit → Act → World → Prop}
theorem wpList_put (hgd : o.guard = none) (m k x : Operand) (ho : o.op = .mapUpdate 50 m k x) (b : Nat) (key : ByteArray) (v : Value) (hm : a.eval m = .map (some b)) (hk : a.eval k = .string key) (hx : a.eval x = v)
    (S : List (ByteArray × Value)) (hM : MapIs w b S) (h : ∀ w', MapIs w' b (ins S key v) → w.grownBy w' (some b) → w'.heap.size = w.heap.size → wpList Try.prog ops Q rest (a.put o.dst undef) w') : wpList Try.prog ops Q (o :: rest) a w := by
  obtain ⟨w', hrun, h1, h2, h3⟩ := upd_run hM key v
  refine wpList_plain hgd fun KK hK => ?_
  unfold Oper.wp execOp
  simp only [ho, hm, hk, hx, Sem.run_bind, hrun, Result.andThen_ok, Sem.run_pure]
  exact hK _ _ (h w' h1 h2 h3)
theorem wpList_del (hgd : o.guard = none) (m k : Operand) (ho : o.op = .call { callee := .builtin .delete, args := #[m, k], argTypes := #[50, 9] }) (b : Nat) (key : ByteArray) (hm : a.eval m = .map (some b)) (hk : a.eval k = .string key)
    (S : List (ByteArray × Value)) (hM : MapIs w b S) (h : ∀ w', MapIs w' b (rm S key) → w.grownBy w' (some b) → w'.heap.size = w.heap.size → wpList Try.prog ops Q rest (a.put o.dst (.tuple #[])) w') : wpList Try.prog ops Q (o :: rest) a w := by
  obtain ⟨w', hrun, h1, h2, h3⟩ := del_run hM key o.type
  refine wpList_plain hgd fun KK hK => ?_
  unfold Oper.wp
  simp [execOp, ho, resolve, invoke, builtin, hm, hk, hrun, Result.andThen]
  exact hK _ _ (h w' h1 h2 h3)
theorem wpList_look (hgd : o.guard = none) (m k : Operand) (ho : o.op = .lookup 50 m k true) (b : Nat) (key : ByteArray) (hm : a.eval m = .map (some b)) (hk : a.eval k = .string key)
    (S : List (ByteArray × Value)) (hM : MapIs w b S) (r : Option Value) (hr : lk S key = r) (h : wpList Try.prog ops Q rest (a.put o.dst (.tuple #[r.getD .nilIface, .bool r.isSome])) w) : wpList Try.prog ops Q (o :: rest) a w := by
  have hrun := look_ok hM key
  rw [hr] at hrun
  refine wpList_plain hgd fun KK hK => ?_
  unfold Oper.wp execOp
  simp only [ho, hm, hk, Sem.run_bind, hrun, Result.andThen_ok, Sem.run_pure]
  exact hK _ _ h
theorem wpList_len (hgd : o.guard = none) (m : Operand) (ho : o.op = .call { callee := .builtin .len, args := #[m], argTypes := #[50] }) (b : Nat) (hm : a.eval m = .map (some b))
    (S : List (ByteArray × Value)) (hM : MapIs w b S) (h : wpList Try.prog ops Q rest (a.put o.dst (.int .i64 (S.length : Nat))) w) : wpList Try.prog ops Q (o :: rest) a w := by
  have hrun := len_run hM o.type
  refine wpList_plain hgd fun KK hK => ?_
  unfold Oper.wp
  simp [execOp, ho, resolve, invoke, builtin, hm, hrun, Result.andThen]
  exact hK _ _ h
end

/-! ### ZZNewObj -/
/-- A string as a value of type any. -/
def strv (s : ByteArray) : Value := .iface 9 (.string s)
/-- The number 0 as a value of type any. -/
def numv : Value := .iface 3 (.int .i64 0)

/-- A slice of strings: empty; or its cells. -/
def Strs (w : World) (a : Option Addr) (n : Nat) (T : Nat → ByteArray) : Prop :=
  n = 0 ∨ ∃ b off, a = some ⟨b, off, none⟩ ∧ ∀ i, i < n → w.cell? ⟨b, off + i, none⟩ = some (.string (T i))

/-- The value v set at each key of a list. -/
def insN (S : List (ByteArray × Value)) (T : Nat → ByteArray) (v : Value) : Nat → List (ByteArray × Value)
  | 0 => S
  | m + 1 => ins (insN S T v m) (T m) v
theorem insN_succ (S : List (ByteArray × Value)) (T : Nat → ByteArray) (v : Value) (m : Nat) : insN S T v (m + 1) = ins (insN S T v m) (T m) v := rfl

/-- The map in the making. -/
structure Making (w wr : World) (b : Nat) (S : List (ByteArray × Value)) : Prop where
  below : Below w.heap.size w wr
  ge : w.heap.size ≤ b
  map : MapIs wr b S

theorem Making.put {w wr w' : World} {b : Nat} {S S' : List (ByteArray × Value)} (h : Making w wr b S) (o : Obj) (h1 : MapIs w' b S') (h2 : (wr.alloc o).grownBy w' (some b)) : Making w w' b S' :=
  ⟨(h.below.alloc h.below.size o).grown h2 (h.below.alloc h.below.size o).size (fun k e => by cases e; exact h.ge), h.ge, h1⟩
theorem Making.put0 {w wr w' : World} {b : Nat} {S S' : List (ByteArray × Value)} (h : Making w wr b S) (h1 : MapIs w' b S') (h2 : wr.grownBy w' (some b)) : Making w w' b S' :=
  ⟨h.below.grown h2 h.below.size (fun k e => by cases e; exact h.ge), h.ge, h1⟩

/-- What ZZNewObj leaves: a pointer to a box that holds the map. -/
def Made (w : World) (S : List (ByteArray × Value)) (e : Ending) (w' : World) : Prop :=
  ∃ g b, e = .returned (.pointer (some ⟨g, 0, none⟩)) ∧ w'.cell? ⟨g, 0, none⟩ = some (.map (some b)) ∧ MapIs w' b S ∧ Below w.heap.size w w' ∧ w.heap.size ≤ b ∧ w.heap.size ≤ g ∧ b ≠ g ∧ g < w'.heap.size

set_option maxHeartbeats 2000000 in
theorem newObj_any (a : Option Addr) (n c : Nat) (K V : Nat → ByteArray) (a2 : Option Addr) (n2 c2 : Nat) (T : Nat → ByteArray) (w : World) (hP : Pairs w a n K V) (hT : Strs w a2 n2 T) (hn : n ≤ 1048576) (hn2 : n2 ≤ 1048576) :
    Calls Try.prog 14 #[.slice a n c, .slice a2 n2 c2] w fun e w' => Made w (insN (bld K (fun i => strv (V i)) n) T numv n2) e w' := by
  have hmm := @run_makeMap Try.prog
  have HP := hide hP
  have HT := hide hT
  have HM : Hid (Making w (w.alloc (.map #[] 0)) w.heap.size []) := ⟨(Below.refl _ _).alloc (Nat.le_refl _) _, Nat.le_refl _, ⟨#[], 0, heap_alloc_new w _, rfl⟩⟩
  clear hP hT
  go_enter Try.func14, Try.ntmps14
  go_wp2_with fail
  obtain ⟨b, hb⟩ : ∃ b, b = w.heap.size := ⟨_, rfl⟩
  rw [← hb] at HM ⊢
  have Hb := hide hb
  clear hb
  go_loopw [13] (fun i wr => ∃ k : Nat, k ≤ n ∧ i = .int .i64 (k : Int) ∧ Hid (Making w wr b (bld K (fun i => strv (V i)) k))) (fun i _ => n - (intOf i).toNat)
  case atStart => exact ⟨0, Nat.zero_le _, rfl, unhide HM⟩
  case round =>
    clear HM
    obtain ⟨k, hk, rfl, HC⟩ := hrel
    by_cases hlt : k < n
    · rcases unhide HP with h0 | ⟨bb, off, e, hc⟩
      · omega
      · subst e
        obtain ⟨c1, c2⟩ := hc k hlt
        have q1 := (unhide HC).below.cell (p := ⟨bb, off + k * 2, none⟩) (World.block_lt_of_cell? w _ c1)
        have q2 := (unhide HC).below.cell (p := ⟨bb, off + k * 2 + 1, none⟩) (World.block_lt_of_cell? w _ c2)
        rw [c1] at q1
        rw [c2] at q2
        have hlt' : (k : Int) < (n : Int) := by omega
        clear c1 c2 hc HP
        go_wp2_with (refine wpList_put rfl _ _ _ rfl b (K k) (strv (V k)) rfl rfl rfl (bld K (fun i => strv (V i)) k) ?hM ?_)
        case hM => exact (unhide HC).map.of_block (Below.heap_alloc _ _ _ (unhide HC).map.lt)
        intro w' m1 m2 m3
        have R := hide ((unhide HC).put _ m1 m2)
        clear m1 m2 m3 q1 q2 HC
        go_wp2_with fail
        go_roundw
        case rel => exact ⟨k + 1, by omega, by go_num, unhide R⟩
        case measure => simp [intOf]; omega
    · obtain rfl : k = n := by omega
      have hlt' : ¬ (k : Int) < (k : Int) := by omega
      clear hlt hk
      go_wp2_with fail
      go_loopw [26] (fun i wr => ∃ j : Nat, j ≤ n2 ∧ i = .int .i64 (j : Int) ∧ Hid (Making w wr b (insN (bld K (fun i => strv (V i)) k) T numv j))) (fun i _ => n2 - (intOf i).toNat)
      case atStart => exact ⟨0, Nat.zero_le _, rfl, unhide HC⟩
      case round =>
        clear HC
        obtain ⟨j, hj, rfl, HC⟩ := hrel
        by_cases hlt : j < n2
        · rcases unhide HT with h0 | ⟨bb, off, e, hc⟩
          · omega
          · subst e
            have c1 := hc j hlt
            have q1 := (unhide HC).below.cell (p := ⟨bb, off + j, none⟩) (World.block_lt_of_cell? w _ c1)
            rw [c1] at q1
            have hlt' : (j : Int) < (n2 : Int) := by omega
            clear c1 hc HT HP
            go_wp2_with (refine wpList_put rfl _ _ _ rfl b (T j) numv rfl rfl rfl (insN (bld K (fun i => strv (V i)) k) T numv j) ?hM ?_)
            case hM => exact (unhide HC).map
            intro w' m1 m2 m3
            have R := hide ((unhide HC).put0 m1 m2)
            clear m1 m2 m3 q1 HC
            go_wp2_with fail
            go_roundw
            case rel => exact ⟨j + 1, by omega, by go_num, unhide R⟩
            case measure => simp [intOf]; omega
        · obtain rfl : j = n2 := by omega
          have hlt' : ¬ (j : Int) < (j : Int) := by omega
          clear hlt hj HT HP
          go_wp2_with fail
          go_ret
          have hlb := (unhide HC).map.lt
          refine ⟨_, b, rfl, by simp [go_sem], (unhide HC).map.of_block (Below.heap_alloc _ _ _ hlb), (unhide HC).below.alloc (unhide HC).below.size _, (unhide HC).ge, (unhide HC).below.size, by omega, by simp⟩
end Go.Proofs.Qxb6605665a
