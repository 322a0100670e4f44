/-
  THE WALKS of 'take', of the look-up and of the model's check.
-/
import Derived.Test.Qxb6605665aWalks3
import Derived.Deep.RegionWith
namespace Go.Proofs.Qxb6605665a
open Go.RowKit Mp

theorem grownBy_trans {a b c : World} {row : Option Nat} (h1 : a.grownBy b row) (h2 : b.grownBy c row) : a.grownBy c row :=
  ⟨h2.os.trans h1.os, h2.tape.trans h1.tape, h2.output.trans h1.output, Nat.le_trans h1.size h2.size, fun k hk hr => (h2.block k (Nat.lt_of_lt_of_le hk h1.size) hr).trans (h1.block k hk hr)⟩

set_option maxHeartbeats 1000000 in
theorem take_any (b1 b2 : Nat) (S1 S2 : List (ByteArray × Value)) (f : ByteArray) (w : World) (h1 : MapIs w b1 S1) (h2 : MapIs w b2 S2) (hne : b2 ≠ b1) :
    Calls Try.prog 34 #[.map (some b1), .map (some b2), .string f] w fun e w' => e = .returned (.tuple #[]) ∧ MapIs w' b1 (tk S1 S2 f) ∧ w.grownBy w' (some b1) := by
  have H1 := hide h1
  have H2 := hide h2
  have Hne := hide hne
  cases hl : lk S2 f with
  | none =>
    have Ht := hide (show tk S1 S2 f = rm S1 f by unfold tk; rw [hl])
    have Hl := hide hl
    clear h1 h2 hne hl
    go_enter Try.func34, Try.ntmps34
    go_wp2_with (first | (refine wpList_del rfl _ _ rfl b1 f rfl rfl S1 (unhide H1) ?_; intro w1 m1 m2 m3; have M1 := hide m1; have M2 := hide m2; clear m1 m2 m3) | (refine wpList_look rfl _ _ rfl b2 f rfl rfl S2 ((unhide H2).of_block ((unhide M2).block b2 (unhide H2).lt (fun e => unhide Hne (Option.some.inj e)))) none (unhide Hl) ?_))
    go_end0
    exact ⟨rfl, by rw [unhide Ht]; exact unhide M1, unhide M2⟩
  | some v =>
    have Ht := hide (show tk S1 S2 f = ins (rm S1 f) f v by unfold tk; rw [hl])
    have Hl := hide hl
    clear h1 h2 hne hl
    go_enter Try.func34, Try.ntmps34
    go_wp2_with (first | (refine wpList_del rfl _ _ rfl b1 f rfl rfl S1 (unhide H1) ?_; intro w1 m1 m2 m3; have M1 := hide m1; have M2 := hide m2; clear m1 m2 m3) | (refine wpList_look rfl _ _ rfl b2 f rfl rfl S2 ((unhide H2).of_block ((unhide M2).block b2 (unhide H2).lt (fun e => unhide Hne (Option.some.inj e)))) (some v) (unhide Hl) ?_) | (refine wpList_put rfl _ _ _ rfl b1 f v rfl rfl rfl (rm S1 f) (unhide M1) ?_; intro w2 m1 m2 m3; have N1 := hide m1; have N2 := hide m2; clear m1 m2 m3))
    go_end0
    exact ⟨rfl, by rw [unhide Ht]; exact unhide N1, grownBy_trans (unhide M2) (unhide N2)⟩

set_option maxHeartbeats 1000000 in
theorem zztake_any (g1 g2 b1 b2 : Nat) (S1 S2 : List (ByteArray × Value)) (f : ByteArray) (w : World) (c1 : w.cell? ⟨g1, 0, none⟩ = some (.map (some b1))) (c2 : w.cell? ⟨g2, 0, none⟩ = some (.map (some b2))) (h1 : MapIs w b1 S1) (h2 : MapIs w b2 S2) (hne : b2 ≠ b1) :
    Calls Try.prog 22 #[.pointer (some ⟨g1, 0, none⟩), .pointer (some ⟨g2, 0, none⟩), .string f] w fun e w' => e = .returned (.tuple #[]) ∧ MapIs w' b1 (tk S1 S2 f) ∧ w.grownBy w' (some b1) := by
  have HT := hide (take_any b1 b2 S1 S2 f w.drew (h1.of_block rfl) (h2.of_block rfl) hne)
  clear h1 h2 hne
  go_enter Try.func22, Try.ntmps22
  go_wp2_with fail
  go_region_with (go_at_call 34; refine (unhide HT).mono ?_; rintro e w' ⟨rfl, m1, m2⟩; have M1 := hide m1; have M2 := hide m2; clear m1 m2)
  all_goals
    go_wp2_with fail
    go_end0
    exact ⟨rfl, unhide M1, ⟨(unhide M2).os, (unhide M2).tape, (unhide M2).output, (unhide M2).size, (unhide M2).block⟩⟩

/-! ### ZZGet, ZZLen -/
theorem assert_str (s : ByteArray) (w : World) : (Instr.typeAssert (strv s) 20 9 true).run Try.prog w = .ok (.tuple #[.string s, .bool true]) w := by kernel_rfl
theorem assert_nil (w : World) : (Instr.typeAssert .nilIface 20 9 true).run Try.prog w = .ok (.tuple #[.string ⟨#[]⟩, .bool false]) w := by kernel_rfl
theorem assert_num (w : World) : (Instr.typeAssert numv 20 9 true).run Try.prog w = .ok (.tuple #[.string ⟨#[]⟩, .bool false]) w := by kernel_rfl

theorem wpList_assert {ops : Array Oper} {rest : List Oper} {o : Oper} {a : Act} {w : World} {Q : Exit → Act → World → Prop} (hgd : o.guard = none) (x : Operand) (T : TypeId) (ho : o.op = .typeAssert x 20 T true) (v r : Value) (hx : a.eval x = v)
    (hrun : (Instr.typeAssert v 20 T true).run Try.prog w = .ok r w) (h : wpList Try.prog ops Q rest (a.put o.dst r) w) : wpList Try.prog ops Q (o :: rest) a w := by
  refine wpList_plain hgd fun KK hK => ?_
  unfold Oper.wp execOp
  simp only [ho, hx, Sem.run_bind, hrun, Result.andThen_ok, Sem.run_pure]
  exact hK _ _ h

set_option maxHeartbeats 1000000 in
/-- A map all of whose values are strings. -/
theorem zzget_any (g b : Nat) (S : List (ByteArray × Value)) (key : ByteArray) (r : Option ByteArray) (w : World) (c1 : w.cell? ⟨g, 0, none⟩ = some (.map (some b))) (h1 : MapIs w b S) (hr : lk S key = r.map strv) :
    Calls Try.prog 24 #[.pointer (some ⟨g, 0, none⟩), .string key] w fun e w' => e = .returned (.tuple #[.string (r.getD ⟨#[]⟩), .bool r.isSome]) ∧ w' = w := by
  have H1 := hide h1
  have Hr := hide hr
  clear h1 hr
  cases r with
  | none =>
    go_enter Try.func24, Try.ntmps24
    go_wp2_with (first | (refine wpList_look rfl _ _ rfl b key rfl rfl S (unhide H1) none (unhide Hr) ?_) | (refine wpList_assert rfl _ 9 rfl .nilIface _ rfl (assert_nil _) ?_))
    go_ret2
    exact ⟨rfl, rfl⟩
  | some s =>
    go_enter Try.func24, Try.ntmps24
    go_wp2_with (first | (refine wpList_look rfl _ _ rfl b key rfl rfl S (unhide H1) (some (strv s)) (unhide Hr) ?_) | (refine wpList_assert rfl _ 9 rfl (strv s) _ rfl (assert_str s _) ?_))
    go_ret2
    exact ⟨rfl, rfl⟩

set_option maxHeartbeats 1000000 in
theorem zzlen_any (g b : Nat) (S : List (ByteArray × Value)) (w : World) (c1 : w.cell? ⟨g, 0, none⟩ = some (.map (some b))) (h1 : MapIs w b S) :
    Calls Try.prog 26 #[.pointer (some ⟨g, 0, none⟩)] w fun e w' => e = .returned (.int .i64 (S.length : Nat)) ∧ w' = w := by
  have H1 := hide h1
  clear h1
  go_enter Try.func26, Try.ntmps26
  go_wp2_with (refine wpList_len rfl _ rfl b rfl S (unhide H1) ?_)
  go_ret
  exact ⟨rfl, rfl⟩
end Go.Proofs.Qxb6605665a
