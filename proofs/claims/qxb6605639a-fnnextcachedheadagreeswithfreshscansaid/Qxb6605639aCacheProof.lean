/-
  THE LAW 'FnNextCachedHeadAgreesWithFreshScan', PROVED: the frame is the guide's (slices that are read and not written).
-/
import Derived.Test.Qxb6605639aRows
import Derived.WalkKit
import Derived.ProofKit
import Derived.OpenShut
import Derived.ShutString
import Derived.ChangeOld
import Derived.Below
import Derived.Deep.Grids
import Derived.Test.Qxb6605639aCacheWalk3
namespace Go.Proofs.Qxb6605639a.fnNextCachedHeadAgreesWithFreshScan
open Go.ChangeShapes Go.WideShapes Go.ChangeAt Go.RowKit Go.Deep
open Go.ChangeMaps (open_string shut_string)
open Go.Proofs.Qxb6605639a.Nx
set_option linter.unusedVariables false

theorem own : ownKnob Try.prog.godebug = none := by kernel_rfl
theorem laidOut : laidOutB Try.prog = true := by kernel_rfl

theorem plain_addr {w : World} {ad : Addr} {v : Value} (h : w.cell? (ad.add 0) = some v) : ∃ b off, ad = ⟨b, off, none⟩ := by
  obtain ⟨b, off, spot⟩ := ad
  have hspot : spot = none := by simpa [Addr.add] using World.cell?_spot h
  exact ⟨b, off, by rw [hspot]⟩

/-! ### STEP 1: THE WALK -/
theorem walk (a0 : Option Addr) (lo c0 : Nat) (O : Nat → Int) (st ev : Int) (a1 : Option Addr) (lf c1 : Nat) (F : Nat → Bool) (w : World)
    (hA0 : Arg w a0 lo c0 (fun i => .int .i32 (O i))) (hwf : ∀ i, i < lo → -2147483648 ≤ O i ∧ O i ≤ 2147483647) (hA1 : Arg w a1 lf c1 (fun i => .bool (F i))) :
    Calls Try.prog 6 #[.slice a0 lo c0, .int .i64 st, .int .i64 ev, .slice a1 lf c1] w fun e w' => e = .returned (.bool true) ∧ Below w.heap.size w w' := by
  by_cases hE : 4096 < lo ∨ 65536 < lf ∨ 1048576 < 4 * lo + lf
  · exact cache_early a0 a1 lo c0 lf c1 st ev w hE
  have hlo : lo ≤ 4096 := by omega
  have hlf : lf ≤ 65536 := by omega
  have hsum : 4 * lo + lf ≤ 1048576 := by omega
  by_cases h0 : lo = 0
  · subst h0
    exact cache_zero a0 c0 a1 lf c1 O F st ev w hlf hA0 hA1
  rcases hA0 with ⟨_, h, _⟩ | ⟨ad, rfl, hc⟩
  · exact absurd h h0
  obtain ⟨b, off, rfl⟩ := plain_addr (hc 0 (by omega))
  have ho : ∀ i, i < lo → w.cell? ⟨b, off + i, none⟩ = some (.int .i32 (O i)) := fun i hi => by rw [← add_at]; exact hc i hi
  by_cases hok : ∀ i, i < lo → 0 ≤ O i ∧ O i < lf
  · have hpos := hok 0 (by omega)
    rcases hA1 with ⟨_, h, _⟩ | ⟨ad1, rfl, hf⟩
    · omega
    exact cache_pos b off lo c0 ad1 lf c1 O F st ev w (by omega) hlo hlf hsum ho hf hok
  · exact cache_invalid b off lo c0 a1 lf c1 O st ev w hlo hlf hsum ho hwf hok

theorem wf32 {x : Int} (h : (Lit.int .i32 x).wf = true) : -2147483648 ≤ x ∧ x ≤ 2147483647 := by
  simp [Lit.wf, IntKind.min, IntKind.max, IntKind.signed, IntKind.bits] at h
  omega

/-! ### THE ROW's STEP -/
set_option maxRecDepth 100000 in
theorem lifted (os : Os) (started : os.Started) (H : Type) (enc : TypeId × Value → H) :
    ReturnsInHanded {} Try.checked os 6 .any (Rows.fnNextCachedHeadAgreesWithFreshScanSpec.pre6 enc Try.prog Try.f6 Rows.fnNextCachedHeadAgreesWithFreshScanRow.domain false) (Rows.fnNextCachedHeadAgreesWithFreshScanSpec.post enc Try.prog Try.f6 false true false false) := by
  refine returnsInHanded_of_change (C := Try.checked) own started (by kernel_rfl) Try.func6
    (ChangeSpec.witness6 (enc := enc) (C := Try.checked) false ⟨#[], #[.slice none 0 0, .int .i64 0, .int .i64 0, .slice none 0 0], []⟩ 8 (by kernel_rfl) (by kernel_rfl) (by kernel_rfl) (by kernel_rfl)) ?_
  intro W base args ds gs before hval0 hW hcnd _
  have hval : ∀ (j : Nat) t v, Try.f6.params[j]? = some t → args[j]? = some v → Value.okWide Try.prog W .any base t v := hval0
  have hW' := hW
  obtain ⟨p, q, hA0, hV, rfl, hfz, hnd⟩ := hW
  have hA : DataW.TrodAll enc Try.prog W 0 (fun _ => true) true Try.f6.params.toList args.toList ds p := hA0
  rw [Try.params6] at hA hval
  obtain ⟨v0, vs0, d0, ds0, p0, q0, hargs, rfl, rfl, h0, r0⟩ := trodAll_cons hA
  obtain ⟨v1, vs1, d1, ds1, p1, q1, rfl, rfl, rfl, h1, r1⟩ := trodAll_cons r0
  obtain ⟨v2, vs2, d2, ds2, p2, q2, rfl, rfl, rfl, h2, r2⟩ := trodAll_cons r1
  obtain ⟨v3, vs3, d3, ds3, p3, q3, rfl, rfl, rfl, h3, r3⟩ := trodAll_cons r2
  obtain ⟨rfl, rfl, rfl⟩ := trodAll_nil r3
  obtain rfl : args = #[v0, v1, v2, v3] := by cases args; simp_all
  obtain ⟨rfl, rfl⟩ := trodVars_none hV
  obtain ⟨a0, len0, cap0, rfl⟩ := okWide_slice Try.underlying28 (hval 0 28 v0 rfl rfl)
  have k0 := h0
  have lt0 : ∀ x ∈ p0, x.block < W.heap.size := by obtain ⟨m, hm⟩ := k0; exact DataW.trod_lt m _ _ _ hm
  obtain ⟨O, w0, wf0⟩ : ∃ O : Nat → Int, Arg W a0 len0 cap0 (fun i => .int .i32 (O i)) ∧ ∀ i, i < len0 → -2147483648 ≤ O i ∧ O i ≤ 2147483647 := by
    obtain ⟨fuel, hf⟩ := h0
    rcases open_ints Try.underlying28 Try.underlying21 (by kernel_rfl) hf with ⟨hcs, _⟩ | ⟨x, l, c, zs, hcs, _, hl, hm, hz, _, hcell, hwz⟩
    · simp [Value.cells] at hcs
      obtain ⟨rfl, rfl, rfl⟩ := hcs
      exact ⟨fun _ => 0, Or.inl ⟨rfl, rfl, rfl⟩, fun i hi => absurd hi (by omega)⟩
    · simp [Value.cells] at hcs
      obtain ⟨rfl, rfl, rfl⟩ := hcs
      have hz' : zs.length = cap0 := by simpa using hz
      refine ⟨fun i => zs.getD i 0, Or.inr ⟨_, rfl, fun i hi => hcell i (by omega)⟩, fun i hi => wf32 (hwz _ ?_)⟩
      show zs.getD i 0 ∈ zs
      rw [List.getD_eq_getElem?_getD, List.getElem?_eq_getElem (by omega)]
      exact List.getElem_mem _
  obtain ⟨a1, rfl, rfl, rfl, w1⟩ := open_int Try.underlying3 (hval 1 3 v1 rfl rfl) h1
  obtain ⟨a2, rfl, rfl, rfl, w2⟩ := open_int Try.underlying3 (hval 2 3 v2 rfl rfl) h2
  obtain ⟨a4, len4, cap4, rfl⟩ := okWide_slice Try.underlying29 (hval 3 29 v3 rfl rfl)
  have k4 := h3
  have lt4 : ∀ x ∈ p3, x.block < W.heap.size := by obtain ⟨m, hm⟩ := k4; exact DataW.trod_lt m _ _ _ hm
  obtain ⟨F, w4⟩ : ∃ F : Nat → Bool, Arg W a4 len4 cap4 (fun i => .bool (F i)) := by
    obtain ⟨fuel, hf⟩ := h3
    rcases open_bools Try.underlying29 Try.underlying4 (by kernel_rfl) hf with ⟨hcs, _⟩ | ⟨x, l, c, B, hcs, _, hl, hm, _, hcell⟩
    · simp [Value.cells] at hcs
      obtain ⟨rfl, rfl, rfl⟩ := hcs
      exact ⟨fun _ => false, Or.inl ⟨rfl, rfl, rfl⟩⟩
    · simp [Value.cells] at hcs
      obtain ⟨rfl, rfl, rfl⟩ := hcs
      exact ⟨B, Or.inr ⟨_, rfl, fun i hi => hcell i (by omega)⟩⟩
  clear hA0 hval0
  refine (walk a0 len0 cap0 O a1 a2 a4 len4 cap4 F W w0 wf0 w4).mono fun e W' ⟨he, bel⟩ => ?_
  subst he
  exact ⟨_, rfl, _, _, _, [], _, [], hW', trodAll_mk1 (shut_bool Try.underlying4 _), (trodAll_cons_mk (Below.trod laidOut (by kernel_rfl) (of_decide_eq_true (by kernel_rfl)) k0 bel lt0) (trodAll_cons_mk (shut_int Try.underlying3 w1) (trodAll_cons_mk (shut_int Try.underlying3 w2) (trodAll_cons_mk (Below.trod laidOut (by kernel_rfl) (of_decide_eq_true (by kernel_rfl)) k4 bel lt4) trodAll_mk0)))), rfl, bel.frame _, fun h => by cases h⟩

theorem over : Rows.fnNextCachedHeadAgreesWithFreshScanRow.holds Try.pinned (OpenSpec.ofChange Rows.fnNextCachedHeadAgreesWithFreshScanSpec) :=
  OpenClaim.holds_of_wide 6 Try.f6 rfl rfl rfl rfl rfl rfl rfl ⟨rfl, rfl, rfl, rfl, rfl⟩ rfl rfl rfl rfl rfl (by kernel_rfl) Try.func6 (by kernel_rfl)
    (of_decide_eq_true (by kernel_rfl)) (by unfold Func.isWrapper; first | (rw [if_pos (by decide +kernel)]; kernel_rfl) | (rw [if_neg (by decide +kernel)]; exact ⟨rfl, rfl⟩))
    (fun os started H enc _ => lifted os started H enc)

/-- THE STATEMENT -/
theorem proved : Rows.FnNextCachedHeadAgreesWithFreshScanSaid := over
#print axioms proved
end Go.Proofs.Qxb6605639a.fnNextCachedHeadAgreesWithFreshScan
