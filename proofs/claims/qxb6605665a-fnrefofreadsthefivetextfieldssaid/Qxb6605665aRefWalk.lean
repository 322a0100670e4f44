/-
  THE WALKS of RefOf and its text closure, of ZZRefOf and ZZSetObj.
-/
import Derived.Test.Qxb6605665aTakeWalk
import Derived.Test.Qxb6605665aBytes9
namespace Go.Proofs.Qxb6605665a
open Go.RowKit Mp

/-- A map as a value of type any. -/
def mapv (b : Nat) : Value := .iface 50 (.map (some b))
theorem assert_map (b : Nat) (w : World) : (Instr.typeAssert (mapv b) 20 9 true).run Try.prog w = .ok (.tuple #[.string ⟨#[]⟩, .bool false]) w := by kernel_rfl
theorem as50_nil (w : World) : (Instr.typeAssert .nilIface 20 50 true).run Try.prog w = .ok (.tuple #[.map none, .bool false]) w := by kernel_rfl
theorem as50_str (s : ByteArray) (w : World) : (Instr.typeAssert (strv s) 20 50 true).run Try.prog w = .ok (.tuple #[.map none, .bool false]) w := by kernel_rfl
theorem as50_num (w : World) : (Instr.typeAssert numv 20 50 true).run Try.prog w = .ok (.tuple #[.map none, .bool false]) w := by kernel_rfl
theorem as50_map (b : Nat) (w : World) : (Instr.typeAssert (mapv b) 20 50 true).run Try.prog w = .ok (.tuple #[.map (some b), .bool true]) w := by kernel_rfl

theorem wpList_look1 {ops : Array Oper} {rest : List Oper} {o : Oper} {a : Act} {w : World} {Q : Exit → Act → World → Prop} (hgd : o.guard = none) (m k : Operand) (ho : o.op = .lookup 50 m k false) (b : Nat) (key : ByteArray) (hm : a.eval m = .map (some b)) (hk : a.eval k = .string key)
    (S : List (ByteArray × Value)) (hM : MapIs w b S) (v : Value) (hr : (lk S key).getD .nilIface = v) (h : wpList Try.prog ops Q rest (a.put o.dst v) w) : wpList Try.prog ops Q (o :: rest) a w := by
  have hrun := look_one hM key
  rw [hr] at hrun
  refine wpList_plain hgd fun KK hK => ?_
  unfold Oper.wp execOp
  simp only [ho, hm, hk, Sem.run_bind, hrun, Result.andThen_ok, Sem.run_pure]
  exact hK _ _ h
theorem wpList_look0 {ops : Array Oper} {rest : List Oper} {o : Oper} {a : Act} {w : World} {Q : Exit → Act → World → Prop} (hgd : o.guard = none) (m k : Operand) (ho : o.op = .lookup 50 m k false) (key : ByteArray) (hm : a.eval m = .map none) (hk : a.eval k = .string key)
    (h : wpList Try.prog ops Q rest (a.put o.dst .nilIface) w) : wpList Try.prog ops Q (o :: rest) a w := by
  have hrun := look_none w key
  refine wpList_plain hgd fun KK hK => ?_
  unfold Oper.wp execOp
  simp only [ho, hm, hk, Sem.run_bind, hrun, Result.andThen_ok, Sem.run_pure]
  exact hK _ _ h

/-! ### The text closure -/
set_option maxHeartbeats 1000000 in
theorem text_some (b : Nat) (S : List (ByteArray × Value)) (key : ByteArray) (v : Value) (s : ByteArray) (ok : Bool) (w : World) (hM : MapIs w b S) (hr : (lk S key).getD .nilIface = v)
    (hA : ∀ w, (Instr.typeAssert v 20 9 true).run Try.prog w = .ok (.tuple #[.string s, .bool ok]) w) :
    Calls Try.prog 36 #[.map (some b), .string key] w fun e w' => e = .returned (.string s) ∧ w' = w := by
  have HM := hide hM
  have Hr := hide hr
  have HA := hide hA
  clear hM hr hA
  go_enter Try.func36, Try.ntmps36
  go_wp2_with (first | (refine wpList_look1 rfl _ _ rfl b key rfl rfl S (unhide HM) v (unhide Hr) ?_) | (refine wpList_assert rfl _ 9 rfl v _ rfl (unhide HA _) ?_))
  go_ret
  exact ⟨rfl, rfl⟩
set_option maxHeartbeats 1000000 in
theorem text_none (key : ByteArray) (w : World) : Calls Try.prog 36 #[.map none, .string key] w fun e w' => e = .returned (.string ⟨#[]⟩) ∧ w' = w := by
  go_enter Try.func36, Try.ntmps36
  go_wp2_with (first | (refine wpList_look0 rfl _ _ rfl key rfl rfl ?_) | (refine wpList_assert rfl _ 9 rfl .nilIface _ rfl (assert_nil _) ?_))
  go_ret
  exact ⟨rfl, rfl⟩

/-- What the closure reads at a key, in every later world. -/
def TextIs (w : World) (m : Option Nat) (key s : ByteArray) : Prop := ∀ W : World, (∀ k, k < w.heap.size → W.heap[k]? = w.heap[k]?) → Calls Try.prog 36 #[.map m, .string key] W fun e w' => e = .returned (.string s) ∧ w' = W
theorem textIs_none (w : World) (key : ByteArray) : TextIs w none key ⟨#[]⟩ := fun W _ => text_none key W
theorem textIs_some {w : World} {b : Nat} {S : List (ByteArray × Value)} (hM : MapIs w b S) (key : ByteArray) {v : Value} {s : ByteArray} {ok : Bool} (hr : (lk S key).getD .nilIface = v) (hA : ∀ w, (Instr.typeAssert v 20 9 true).run Try.prog w = .ok (.tuple #[.string s, .bool ok]) w) : TextIs w (some b) key s :=
  fun W hW => text_some b S key v s ok W (hM.of_block (hW b hM.lt)) hr hA

/-! ### RefOf -/
set_option maxHeartbeats 2000000 in
theorem refOf_any (b : Nat) (S : List (ByteArray × Value)) (mv : Option Nat) (v : Value) (ok : Bool) (s1 s2 s3 s4 s5 : ByteArray) (w : World) (hM : MapIs w b S) (hr : (lk S ⟨#[109, 101, 116, 97, 100, 97, 116, 97]⟩).getD .nilIface = v)
    (hA : ∀ w, (Instr.typeAssert v 20 50 true).run Try.prog w = .ok (.tuple #[.map mv, .bool ok]) w)
    (h1 : TextIs w (some b) ⟨#[97, 112, 105, 86, 101, 114, 115, 105, 111, 110]⟩ s1) (h2 : TextIs w (some b) ⟨#[107, 105, 110, 100]⟩ s2) (h3 : TextIs w mv ⟨#[110, 97, 109, 101, 115, 112, 97, 99, 101]⟩ s3) (h4 : TextIs w mv ⟨#[110, 97, 109, 101]⟩ s4) (h5 : TextIs w mv ⟨#[117, 105, 100]⟩ s5) :
    Calls Try.prog 32 #[.map (some b)] w fun e w' => e = .returned (.agg #[.string s1, .string s2, .string s3, .string s4, .string s5]) ∧ ∃ c, w' = w.alloc (.cells c 33) := by
  have HM := hide hM
  have Hr := hide hr
  have HA := hide hA
  have H1 := hide h1
  have H2 := hide h2
  have H3 := hide h3
  have H4 := hide h4
  have H5 := hide h5
  clear hM hr hA h1 h2 h3 h4 h5
  go_enter Try.func32, Try.ntmps32
  go_wp2_with (first | (refine wpList_look1 rfl _ _ rfl b _ rfl rfl S ((unhide HM).of_block (Below.heap_alloc _ _ _ (unhide HM).lt)) v (unhide Hr) ?_) | (refine wpList_assert rfl _ 50 rfl v _ rfl (unhide HA _) ?_))
  refine (unhide H1 _ (fun k hk => Below.heap_alloc _ _ _ hk)).mono ?_
  rintro e w' ⟨rfl, hw⟩
  have hw := hw.symm
  subst hw
  go_wp2_with fail
  refine (unhide H2 _ (fun k hk => Below.heap_alloc _ _ _ hk)).mono ?_
  rintro e w' ⟨rfl, hw⟩
  have hw := hw.symm
  subst hw
  go_wp2_with fail
  refine (unhide H3 _ (fun k hk => Below.heap_alloc _ _ _ hk)).mono ?_
  rintro e w' ⟨rfl, hw⟩
  have hw := hw.symm
  subst hw
  go_wp2_with fail
  refine (unhide H4 _ (fun k hk => Below.heap_alloc _ _ _ hk)).mono ?_
  rintro e w' ⟨rfl, hw⟩
  have hw := hw.symm
  subst hw
  go_wp2_with fail
  refine (unhide H5 _ (fun k hk => Below.heap_alloc _ _ _ hk)).mono ?_
  rintro e w' ⟨rfl, hw⟩
  have hw := hw.symm
  subst hw
  go_wp2_with fail
  exact bodyPost_ret (v := .agg #[.string s1, .string s2, .string s3, .string s4, .string s5]) (by simp [results, Try.results32, go_sem]) rfl ⟨rfl, _, rfl⟩

set_option maxHeartbeats 2000000 in
theorem zzRefOf_any (g b : Nat) (r : Value) (s1 s2 s3 s4 s5 : ByteArray) (hr : r = .agg #[.string s1, .string s2, .string s3, .string s4, .string s5]) (w : World) (hc : w.cell? ⟨g, 0, none⟩ = some (.map (some b)))
    (hR : ∀ W : World, (∀ k, k < w.heap.size → W.heap[k]? = w.heap[k]?) → Calls Try.prog 32 #[.map (some b)] W fun e w' => e = .returned r ∧ ∃ c, w' = W.alloc (.cells c 33)) :
    Calls Try.prog 16 #[.pointer (some ⟨g, 0, none⟩)] w fun e w' => e = .returned r ∧ Below w.heap.size w w' := by
  subst hr
  have HR := hide hR
  have hg : g < w.heap.size := World.block_lt_of_cell? w ⟨g, 0, none⟩ hc
  clear hR
  go_enter Try.func16, Try.ntmps16
  go_wp2_with fail
  refine (unhide HR _ (fun k hk => Below.heap_alloc _ _ _ hk)).mono ?_
  rintro e w' ⟨rfl, c, rfl⟩
  go_wp2_with fail
  exact bodyPost_ret (v := .agg #[.string s1, .string s2, .string s3, .string s4, .string s5]) (by simp [results, Try.results16, go_sem]) rfl ⟨rfl, ((Below.refl _ _).alloc (Nat.le_refl _) _).alloc (by simp) _⟩

set_option maxHeartbeats 2000000 in
theorem setObj_any (g1 g2 b1 b2 : Nat) (S1 : List (ByteArray × Value)) (key : ByteArray) (w : World) (c1 : w.cell? ⟨g1, 0, none⟩ = some (.map (some b1))) (c2 : w.cell? ⟨g2, 0, none⟩ = some (.map (some b2))) (h1 : MapIs w b1 S1) :
    Calls Try.prog 15 #[.pointer (some ⟨g1, 0, none⟩), .string key, .pointer (some ⟨g2, 0, none⟩)] w fun e w' => e = .returned (.tuple #[]) ∧ MapIs w' b1 (ins S1 key (mapv b2)) ∧ w.grownBy w' (some b1) := by
  obtain ⟨w1, hrun, m1, m2, m3⟩ := upd_run (w := w.drew) (h1.of_block rfl) key (mapv b2)
  have M1 := hide m1
  have M2 := hide m2
  unfold mapv at hrun
  clear m1 m2 m3 h1
  go_enter Try.func15, Try.ntmps15
  go_wp2_with fail
  go_region
  all_goals
    go_wp2_with fail
    go_end0
    exact ⟨rfl, unhide M1, ⟨(unhide M2).os, (unhide M2).tape, (unhide M2).output, (unhide M2).size, (unhide M2).block⟩⟩
end Go.Proofs.Qxb6605665a
