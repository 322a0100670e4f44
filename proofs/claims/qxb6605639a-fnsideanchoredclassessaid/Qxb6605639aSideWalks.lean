/-
  THE WALKS of 'side' and what it calls.
-/
import Derived.Test.Qxb6605639aRows
import Derived.Test.Qxb6605639aSide
import Derived.WalkKit
import Derived.WalkLawsBesides
import Derived.Outline
import Derived.BigQuiet
import Derived.Deep.QuietTactic
import Derived.RowKit3
namespace Go.Proofs.Qxb6605639a
open Go.RowKit

theorem hide {p : Prop} (h : p) : Hid p := h
theorem unhide {p : Prop} (h : Hid p) : p := h
theorem run_mul_some (x y r : Nat) (h : Ieee.double.mul x y = some r) (w : World) : (binOp .mul 22 (.float .f64 x) (.float .f64 y)).run Try.prog w = .ok (.float .f64 r) w :=
  run_float_arith w .mul 22 .f64 x y r h

/-- The NaN that an answer of the tape makes. -/
def nanW (t : Nat) : Nat := (t % 2) * 2 ^ 63 + 0x7ff0000000000000 + 1 + (t / 2) % (2 ^ 52 - 1)
theorem nanW_read (t : Nat) : ∃ s f, Ieee.double.read (nanW t) = .nan s f := by
  have e : nanW t % Fl.SW = 0x7ff0000000000000 + 1 + (t / 2) % (2 ^ 52 - 1) := by unfold nanW Fl.SW; omega
  rw [Fl.read_cases, e, if_neg (by rw [Fl.B_num]; omega), if_neg (by rw [Fl.ir_num]; omega), if_neg (by rw [Fl.ir_num]; omega)]
  exact ⟨_, _, rfl⟩
theorem run_mul_none (x y : Nat) (h : Ieee.double.mul x y = none) (w : World) : (binOp .mul 22 (.float .f64 x) (.float .f64 y)).run Try.prog w = .ok (.float .f64 (nanW (w.tape w.drawn (.nanBits .f64 x y)))) w.drew := by
  have h' : FloatKind.f64.format.mul x y = none := h
  simp [binOp, Op.floatArith, h', Question.forced, Question.cut, nanW]

/-! ### fallsShort -/
set_option maxHeartbeats 400000 in
theorem short_some (x b y : Nat) (h : Ieee.double.mul b 4607182418791010209 = some y) (w : World) :
    Calls Try.prog 21 #[.float .f64 x, .float .f64 b] w fun e w' => e = .returned (.bool (Ieee.double.order x y == some .lt)) ∧ w' = w := by
  have hm := run_mul_some b _ y h
  clear h
  go_enter Try.func21, Try.ntmps21
  go_wp2
  go_ret
  exact ⟨rfl, rfl⟩
set_option maxHeartbeats 400000 in
theorem short_none (x b : Nat) (h : Ieee.double.mul b 4607182418791010209 = none) (w : World) :
    Calls Try.prog 21 #[.float .f64 x, .float .f64 b] w fun e w' => e = .returned (.bool false) ∧ w' = w.drew := by
  have hm := run_mul_none b _ h
  have ho : ∀ t, (FloatKind.f64.format.order x (nanW t) == some .lt) = false := fun t => by
    obtain ⟨s, f, hr⟩ := nanW_read t
    show (Ieee.double.order x (nanW t) == some .lt) = false
    rw [Fl.order_nan_right hr]; rfl
  clear h
  go_enter Try.func21, Try.ntmps21
  go_wp2
  go_ret
  exact ⟨rfl, rfl⟩
theorem short_any (x b : Nat) (w : World) :
    Calls Try.prog 21 #[.float .f64 x, .float .f64 b] w fun e w' => e = .returned (.bool (Fl.fs x b)) ∧ ∃ n, w' = w.drewN n := by
  cases h : Ieee.double.mul b 4607182418791010209 with
  | some y =>
    refine (short_some x b y h w).mono ?_
    rintro e w' ⟨rfl, rfl⟩
    refine ⟨?_, 0, rfl⟩
    have e : Fl.fs x b = (Ieee.double.order x y == some .lt) := by
      unfold Fl.fs; rw [show Fl.C = 4607182418791010209 from rfl, h]
    rw [e]
  | none =>
    refine (short_none x b h w).mono ?_
    rintro e w' ⟨rfl, rfl⟩
    refine ⟨?_, 1, rfl⟩
    have e : Fl.fs x b = false := by
      unfold Fl.fs; rw [show Fl.C = 4607182418791010209 from rfl, h]
    rw [e]

/-! ### compareRounded -/
def cmpR (a b : Nat) : Int := if Fl.fs a b then -1 else if Fl.fs b a then 1 else 0
set_option maxHeartbeats 400000 in
theorem cmp_any (a b : Nat) (w : World) :
    Calls Try.prog 19 #[.float .f64 a, .float .f64 b] w fun e w' => e = .returned (.int .i64 (cmpR a b)) ∧ ∃ n, w' = w.drewN n := by
  cases h1 : Fl.fs a b with
  | true =>
    have e : cmpR a b = -1 := by unfold cmpR; rw [h1]; rfl
    rw [e]; clear e
    have s1 := short_any a b
    rw [h1] at s1
    have H := hide s1; clear s1 h1
    go_enter Try.func19, Try.ntmps19
    go_wp2_with fail
    refine (unhide H _).mono ?_
    rintro e w' ⟨rfl, n, rfl⟩
    go_wp2_with fail
    go_ret
    exact ⟨rfl, n, rfl⟩
  | false =>
    have s1 := short_any a b
    rw [h1] at s1
    have H := hide s1; clear s1
    cases h2 : Fl.fs b a with
    | true =>
      have e : cmpR a b = 1 := by unfold cmpR; rw [h1, h2]; rfl
      rw [e]; clear e
      have s2 := short_any b a
      rw [h2] at s2
      have H2 := hide s2; clear s2 h1 h2
      go_enter Try.func19, Try.ntmps19
      go_wp2_with fail
      refine (unhide H _).mono ?_
      rintro e w' ⟨rfl, n, rfl⟩
      go_wp2_with fail
      refine (unhide H2 _).mono ?_
      rintro e w' ⟨rfl, m, rfl⟩
      go_wp2_with fail
      go_ret
      exact ⟨rfl, n + m, by simp [World.drewN]⟩
    | false =>
      have e : cmpR a b = 0 := by unfold cmpR; rw [h1, h2]; rfl
      rw [e]; clear e
      have s2 := short_any b a
      rw [h2] at s2
      have H2 := hide s2; clear s2 h1 h2
      go_enter Try.func19, Try.ntmps19
      go_wp2_with fail
      refine (unhide H _).mono ?_
      rintro e w' ⟨rfl, n, rfl⟩
      go_wp2_with fail
      refine (unhide H2 _).mono ?_
      rintro e w' ⟨rfl, m, rfl⟩
      go_wp2_with fail
      go_ret
      exact ⟨rfl, n + m, by simp [World.drewN]⟩

/-! ### A struct of many cells, built and boxed: the cells under a name -/
theorem wpList_build {P : Program} {ops : Array Oper} {rest : List Oper} {o : Oper} {a : Act} {w : World} {Q : Exit → Act → World → Prop} (hgd : o.guard = none) (ty : TypeId) (parts : Array (Nat × Operand)) (ho : o.op = .build ty parts)
    (vals : Array (Nat × Value)) (hv : (parts.map fun (i, x) => (i, a.eval x)) = vals) (v : Value) (hrun : (Instr.build ty vals).run P w = .ok v w)
    (h : wpList P ops Q rest (a.put o.dst v) w) : wpList P ops Q (o :: rest) a w :=
  wpList_plain hgd fun K hK => by
    unfold Oper.wp execOp
    simp only [ho, hv, Sem.run_bind, hrun, Result.andThen_ok, Sem.run_pure]
    exact hK _ _ h

theorem sim_built (a : Int) : ∃ Z : Array Value, (∀ w, (Instr.build 109 #[(4, .int .i64 a)]).run Try.prog w = .ok (.agg Z) w) ∧ Z.size = 126 ∧ Z[22]? = some (.int .i64 a) :=
  ⟨(((Try.prog.info? 109).bind (·.zero)).getD undef).cells.setIfInBounds 22 (.int .i64 a), fun _ => by kernel_rfl, by kernel_rfl, by kernel_rfl⟩

end Go.Proofs.Qxb6605639a
