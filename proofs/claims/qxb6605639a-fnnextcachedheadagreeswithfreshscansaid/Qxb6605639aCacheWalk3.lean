/-
  THE WALK of the law FnNextCachedHeadAgreesWithFreshScan: the other ways.
-/
import Derived.Test.Qxb6605639aCacheWalk2
namespace Go.Proofs.Qxb6605639a.Nx
open Go.RowKit

set_option maxHeartbeats 1000000 in
theorem cache_invalid (b off lo c0 : Nat) (a1 : Option Addr) (lf c1 : Nat) (O : Nat → Int) (st ev : Int) (w : World) (hlo : lo ≤ 4096) (hlf : lf ≤ 65536) (hsum : 4 * lo + lf ≤ 1048576)
    (ho : ∀ i, i < lo → w.cell? ⟨b, off + i, none⟩ = some (.int .i32 (O i))) (hwf : ∀ i, i < lo → -2147483648 ≤ O i ∧ O i ≤ 2147483647) (hbad : ¬ ∀ i, i < lo → 0 ≤ O i ∧ O i < lf) :
    Calls Try.prog 6 #[.slice (some ⟨b, off, none⟩) lo c0, .int .i64 st, .int .i64 ev, .slice a1 lf c1] w fun e w' => e = .returned (.bool true) ∧ Below w.heap.size w w' := by
  have Ho := hide ho
  have Hw := hide hwf
  have Hbad := hide hbad
  have HB := hide (bytes16_true (some ⟨b, off, none⟩) a1 lo lf c0 c1 st ev (by omega) w)
  have hsum' : 4 * (lo : Int) + (lf : Int) ≤ 1048576 := by omega
  clear ho hbad hwf
  go_enter Try.func6, Try.ntmps6
  go_wp2_with fail
  refine (unhide HB).mono ?_
  rintro e w' ⟨rfl, hw⟩
  have hw := hw.symm
  subst hw
  go_wp2_with fail
  go_loop [9] (fun v => ∃ k : Nat, k ≤ lo ∧ v = .int .i64 (k : Int) ∧ Hid (∀ i, i < k → 0 ≤ O i ∧ O i < lf)) (fun v => lo - (intOf v).toNat)
  case atStart => exact ⟨0, Nat.zero_le _, rfl, fun i hi => absurd hi (by omega)⟩
  case round =>
    obtain ⟨k, hk, rfl, hval⟩ := hrel
    by_cases hlt : k < lo
    · have hc := unhide Ho k hlt
      obtain ⟨w1, w2⟩ := unhide Hw k hlt
      have hlt' : (k : Int) < (lo : Int) := by omega
      by_cases hn : O k < 0
      · go_wp2_with fail
        go_ret
        exact ⟨rfl, Below.refl _ _⟩
      · by_cases hg : O k < (lf : Int)
        · go_wp2_with fail
          go_round
          case rel =>
            refine ⟨k + 1, by omega, by go_num, fun i hi => ?_⟩
            by_cases e : i = k
            · subst e; omega
            · exact unhide hval i (by omega)
          case measure => simp [intOf]; omega
        · go_wp2_with fail
          go_ret
          exact ⟨rfl, Below.refl _ _⟩
    · exact absurd (fun i hi => unhide hval i (by omega)) (unhide Hbad)

set_option maxHeartbeats 1000000 in
theorem cache_early (a0 a1 : Option Addr) (lo c0 lf c1 : Nat) (st ev : Int) (w : World) (h : 4096 < lo ∨ 65536 < lf ∨ 1048576 < 4 * lo + lf) :
    Calls Try.prog 6 #[.slice a0 lo c0, .int .i64 st, .int .i64 ev, .slice a1 lf c1] w fun e w' => e = .returned (.bool true) ∧ Below w.heap.size w w' := by
  by_cases hb : lo + lf ≤ 1048576
  · have HB := hide (bytes16_true a0 a1 lo lf c0 c1 st ev hb w)
    have hb1 : (lo : Int) + (lf : Int) ≤ 1048576 := by omega
    by_cases h1 : (4096 : Int) < (lo : Int)
    · go_enter Try.func6, Try.ntmps6
      go_wp2_with fail
      refine (unhide HB).mono ?_
      rintro e w' ⟨rfl, hw⟩
      have hw := hw.symm
      subst hw
      go_wp2_with fail
      go_ret
      exact ⟨rfl, Below.refl _ _⟩
    · by_cases h2 : (65536 : Int) < (lf : Int)
      · go_enter Try.func6, Try.ntmps6
        go_wp2_with fail
        refine (unhide HB).mono ?_
        rintro e w' ⟨rfl, hw⟩
        have hw := hw.symm
        subst hw
        go_wp2_with fail
        go_ret
        exact ⟨rfl, Below.refl _ _⟩
      · exact absurd h (by omega)
  · have HB := hide (bytes16_false a0 a1 lo lf c0 c1 st ev (by omega) w)
    go_enter Try.func6, Try.ntmps6
    go_wp2_with fail
    refine (unhide HB).mono ?_
    rintro e w' ⟨rfl, hw⟩
    have hw := hw.symm
    subst hw
    go_wp2_with fail
    go_ret
    exact ⟨rfl, Below.refl _ _⟩

set_option maxRecDepth 100000 in
set_option maxHeartbeats 1000000 in
theorem cache_zero (a0 : Option Addr) (c0 : Nat) (a1 : Option Addr) (lf c1 : Nat) (O : Nat → Int) (F : Nat → Bool) (st ev : Int) (w : World) (hlf : lf ≤ 65536)
    (hA0 : Arg w a0 0 c0 (fun i => .int .i32 (O i))) (hA1 : Arg w a1 lf c1 (fun i => .bool (F i))) :
    Calls Try.prog 6 #[.slice a0 0 c0, .int .i64 st, .int .i64 ev, .slice a1 lf c1] w fun e w' => e = .returned (.bool true) ∧ Below w.heap.size w w' := by
  have HB := hide (bytes16_true a0 a1 0 lf c0 c1 st ev (by omega) w)
  have HC1 := hide (clone11_gen a0 0 c0 (by omega) O w hA0)
  have HA1 := hide hA1
  have hmk := make4 lf (by omega)
  clear hA0 hA1
  go_enter Try.func6, Try.ntmps6
  go_wp2_with fail
  refine (unhide HB).mono ?_
  rintro e w' ⟨rfl, hw⟩
  have hw := hw.symm
  subst hw
  go_wp2_with fail
  go_loop [9] (fun v => v = .int .i64 (0 : Int)) (fun _ => 0)
  case atStart => rfl
  case round =>
    subst hrel
    go_wp2_with fail
    refine (unhide HC1).mono ?_
    rintro e w1 ⟨a0', c0', rfl, hb1, hk1⟩
    have HC2 := hide (clone12_gen a1 lf c1 (by omega) F w1 ((unhide HA1).below hb1))
    have Hb1 := hide hb1
    have Hk1 := hide hk1
    clear hb1 hk1
    go_wp2_with fail
    refine (unhide HC2).mono ?_
    rintro e w2 ⟨a1', c1', rfl, hb2, hk2⟩
    have Hb2 := hide (((unhide Hb1).trans (hb2.mono (unhide Hb1).size)).alloc ((unhide Hb1).trans (hb2.mono (unhide Hb1).size)).size (.cells (madeCells #[.bool false] lf) 4))
    have Hk : Hid (∀ b o, (a0' = some ⟨b, o, none⟩ ∨ a1' = some ⟨b, o, none⟩) → b < (w2.alloc (.cells (madeCells #[.bool false] lf) 4)).heap.size) := by
      rintro b o (h | h)
      · have := (unhide Hk1 b o h).2; have := hb2.size; simp; omega
      · have := (hk2 b o h).2; simp; omega
    clear hb2 hk2
    go_wp2_with fail
    obtain ⟨W2, hW2⟩ : ∃ W2, W2 = w2.alloc (.cells (madeCells #[.bool false] lf) 4) := ⟨_, rfl⟩
    rw [← hW2] at Hb2 Hk ⊢
    clear hW2
    go_loop [11, 12] (fun v i => v = .int .i64 (0 : Int) ∧ i = .int .i64 (0 : Int)) (fun _ _ => 0)
    case atStart => exact ⟨rfl, rfl⟩
    case round =>
      obtain ⟨rfl, rfl⟩ := hrel
      go_wp2_with fail
      have Hx := hide (xor1_ne ev)
      generalize bits .xor .i64 ev 1 = xe at *
      refine (zznew_any a0' 0 c0' st xe W2).mono ?_
      rintro e w3 ⟨rfl, hR, hg3, hz3⟩
      have hb3 := (unhide Hb2).grown hg3 (unhide Hb2).size (by simp)
      have hN := zznext_any W2.heap.size a0' a1' 0 lf c0' c1' O F st xe ev 0 (Or.inr ⟨unhide Hx, rfl⟩) w3 ⟨by omega, hlf, fun i hi => absurd hi (by omega), Or.inl rfl⟩ hR (fun b o h => by have := unhide Hk b o h; omega)
      rw [Sc.scan_stop (Nat.zero_le _)] at hN
      have HN := hide hN
      have Hb3 := hide hb3
      have Hk3 : Hid (∀ b o, (a0' = some ⟨b, o, none⟩ ∨ a1' = some ⟨b, o, none⟩) → b < w3.heap.size) := fun b o h => by have := unhide Hk b o h; omega
      have Hle : Hid (w.heap.size ≤ W2.heap.size) := (unhide Hb2).size
      clear hR hg3 hz3 hb3 hN
      go_wp2_with fail
      go_loop [15] (fun v => v = .int .i64 (0 : Int)) (fun _ => 0)
      case atStart => rfl
      case round =>
        subst hrel
        go_wp2_with fail
        refine (unhide HN).mono ?_
        rintro e w4 ⟨rfl, hR4, hg4⟩
        have Hb4 := hide ((unhide Hb3).grown hg4 (unhide Hb3).size (fun k e => by cases e; exact unhide Hle))
        have Hk4 : Hid (∀ b o, (a0' = some ⟨b, o, none⟩ ∨ a1' = some ⟨b, o, none⟩) → b < w4.heap.size) := fun b o h => Nat.lt_of_lt_of_le (unhide Hk3 b o h) hg4.size
        have HR4 := hide hR4
        clear hR4 hg4
        go_wp2_with fail
        refine (zznew_any a0' 0 c0' 0 ev w4).mono ?_
        rintro e w5 ⟨rfl, hR5, hg5, hz5⟩
        have Hb5 := hide ((unhide Hb4).grown hg5 (unhide Hb4).size (by simp))
        have HR45 := hide ((unhide HR4).of_block (hg5.block _ (unhide HR4).lt (by simp)))
        have hN5 := zznext_any w4.heap.size a0' a1' 0 lf c0' c1' O F 0 ev ev 0 (Or.inl ⟨rfl, rfl⟩) w5 ⟨by omega, hlf, fun i hi => absurd hi (by omega), Or.inl rfl⟩ hR5 (fun b o h => by have := unhide Hk4 b o h; omega)
        rw [Sc.scan_stop (Nat.zero_le _)] at hN5
        have HN5 := hide hN5
        have Hle4 : Hid (w.heap.size ≤ w4.heap.size) := (unhide Hb4).size
        have Hne : Hid (W2.heap.size ≠ w4.heap.size) := Nat.ne_of_lt (unhide HR4).lt
        clear hR5 hg5 hz5 hN5
        go_wp2_with fail
        refine (unhide HN5).mono ?_
        rintro e w6 ⟨rfl, _, hg6⟩
        have Hb6 := hide ((unhide Hb5).grown hg6 (unhide Hb5).size (fun k e => by cases e; exact unhide Hle4))
        have hR6 := (unhide HR45).of_block (hg6.block _ (unhide HR45).lt (fun e => unhide Hne (Option.some.inj e)))
        have HH := hide (zzhead_any W2.heap.size _ _ w6 hR6.c4 hR6.c5)
        clear hR6 hg6
        go_wp2_with fail
        refine (unhide HH).mono ?_
        rintro e w7 ⟨rfl, n7, rfl⟩
        go_wp2_with fail
        go_ret
        exact ⟨rfl, below_drewN (unhide Hb6) _⟩

end Go.Proofs.Qxb6605639a.Nx
