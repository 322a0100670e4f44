/-
  THE WALK of the law FnNextFindsFirstFreeFromHead: an empty order.
-/
import Derived.Test.Qxb6605639aFindWalk2
namespace Go.Proofs.Qxb6605639a.Nx
open Go.RowKit

/-- What is told of a slice that came in: nil; or an address and what its cells hold. -/
def Arg (w : World) (a : Option Addr) (n c : Nat) (f : Nat → Value) : Prop := (a = none ∧ n = 0 ∧ c = 0) ∨ ∃ ad, a = some ad ∧ ∀ i, i < n → w.cell? (ad.add i) = some (f i)

theorem Arg.below {w w' : World} {a : Option Addr} {n c : Nat} {f : Nat → Value} (h : Arg w a n c f) (hb : Below w.heap.size w w') : Arg w' a n c f := by
  rcases h with h | ⟨ad, h1, h2⟩
  · exact Or.inl h
  · exact Or.inr ⟨ad, h1, fun i hi => by rw [hb.cell (World.block_lt_of_cell? w _ (h2 i hi))]; exact h2 i hi⟩

theorem clone11_gen (a : Option Addr) (n c : Nat) (h : n ≤ 1048576) (O : Nat → Int) (w : World) (hA : Arg w a n c (fun i => .int .i32 (O i))) :
    Calls Try.prog 11 #[.slice a n c] w fun e w' => ∃ a' c', e = .returned (.slice a' n c') ∧ Below w.heap.size w w' ∧ ∀ b o, a' = some ⟨b, o, none⟩ → w.heap.size ≤ b ∧ b < w'.heap.size := by
  rcases hA with ⟨rfl, rfl, rfl⟩ | ⟨ad, rfl, hc⟩
  · refine (clone11_nil w).mono ?_
    rintro e w' ⟨rfl, rfl⟩
    exact ⟨none, 0, rfl, Below.refl _ _, fun b o h => by cases h⟩
  · refine (clone11_pos ad n c h O w hc).mono ?_
    rintro e w' ⟨rfl, hb, hz, _, _⟩
    exact ⟨_, _, rfl, hb, fun b o h => by simp at h; omega⟩
theorem clone12_gen (a : Option Addr) (n c : Nat) (h : n ≤ 1048576) (F : Nat → Bool) (w : World) (hA : Arg w a n c (fun i => .bool (F i))) :
    Calls Try.prog 12 #[.slice a n c] w fun e w' => ∃ a' c', e = .returned (.slice a' n c') ∧ Below w.heap.size w w' ∧ ∀ b o, a' = some ⟨b, o, none⟩ → w.heap.size ≤ b ∧ b < w'.heap.size := by
  rcases hA with ⟨rfl, rfl, rfl⟩ | ⟨ad, rfl, hc⟩
  · refine (clone12_nil w).mono ?_
    rintro e w' ⟨rfl, rfl⟩
    exact ⟨none, 0, rfl, Below.refl _ _, fun b o h => by cases h⟩
  · refine (clone12_pos ad n c h F w hc).mono ?_
    rintro e w' ⟨rfl, hb, hz, _, _⟩
    exact ⟨_, _, rfl, hb, fun b o h => by simp at h; omega⟩

set_option maxHeartbeats 1000000 in
theorem find_zero (a0 : Option Addr) (c0 : Nat) (a1 : Option Addr) (lf c1 : Nat) (O : Nat → Int) (F : Nat → Bool) (hd hat ev : Int) (w : World) (hlf : lf ≤ 65536)
    (hA0 : Arg w a0 0 c0 (fun i => .int .i32 (O i))) (hA1 : Arg w a1 lf c1 (fun i => .bool (F i))) (s : Nat) (hs : hat = ev ∧ hd = (s : Int) ∨ hat ≠ ev ∧ s = 0) :
    Calls Try.prog 5 #[.slice a0 0 c0, .int .i64 hd, .int .i64 hat, .int .i64 ev, .slice a1 lf c1] w fun e w' => e = .returned (.bool true) ∧ Below w.heap.size w w' := by
  have HB := hide (bytes10_true a0 a1 0 lf c0 c1 hd hat ev (by omega) w)
  have HC1 := hide (clone11_gen a0 0 c0 (by omega) O w hA0)
  have HA1 := hide hA1
  clear hA0 hA1
  have HS := hide hs
  rcases hs with ⟨rfl, rfl⟩ | ⟨hne, rfl⟩
  · have hee : (hat == hat) = true := by simp
    go_enter Try.func5, Try.ntmps5
    go_wp2_with fail
    refine (unhide HB).mono ?_
    rintro e w' ⟨rfl, hw⟩
    have hw := hw.symm
    subst hw
    go_wp2_with fail
    go_loop [11] (fun v => v = .int .i64 (0 : Int)) (fun _ => 0)
    case atStart => rfl
    case round =>
      subst hrel
      go_wp2_with fail
      refine (unhide HC1).mono ?_
      rintro e w1 ⟨a0', c0', rfl, hb1, hk1⟩
      have HC2 := hide (clone12_gen a1 lf c1 (by omega) F w1 ((unhide HA1).below hb1))
      have Hb1 := hide hb1
      have Hk1 := hide hk1
      clear hb1 hk1
      go_wp2_with fail
      refine (unhide HC2).mono ?_
      rintro e w2 ⟨a1', c1', rfl, hb2, hk2⟩
      have Hb2 := hide ((unhide Hb1).trans (hb2.mono (unhide Hb1).size))
      have Hk : Hid (∀ b o, (a0' = some ⟨b, o, none⟩ ∨ a1' = some ⟨b, o, none⟩) → b < w2.heap.size) := by
        rintro b o (h | h)
        · have := (unhide Hk1 b o h).2; have := hb2.size; omega
        · exact (hk2 b o h).2
      clear hb2 hk2
      go_wp2_with fail
      refine (zznew_any a0' 0 c0' s hat w2).mono ?_
      rintro e w3 ⟨rfl, hR, hg3, hz3⟩
      have hb3 := (unhide Hb2).grown hg3 (unhide Hb2).size (by simp)
      have hN := zznext_any w2.heap.size a0' a1' 0 lf c0' c1' O F s hat hat s (Or.inl ⟨rfl, rfl⟩) w3 ⟨by omega, hlf, fun i hi => absurd hi (by omega), Or.inl rfl⟩ hR (fun b o h => by have := unhide Hk b o h; omega)
      rw [Sc.scan_stop (Nat.zero_le _)] at hN
      have HN := hide hN
      have Hb3 := hide hb3
      have Hle : Hid (w.heap.size ≤ w2.heap.size) := (unhide Hb2).size
      clear hR hg3 hz3 hb3 hN
      go_wp2_with fail
      refine (unhide HN).mono ?_
      rintro e w4 ⟨rfl, hR4, hg4⟩
      have Hb4 := hide ((unhide Hb3).grown hg4 (unhide Hb3).size (fun k e => by cases e; exact unhide Hle))
      have HH := hide (zzhead_any w2.heap.size _ _ w4 hR4.c4 hR4.c5)
      clear hR4 hg4
      go_wp2_with fail
      refine (unhide HH).mono ?_
      rintro e w5 ⟨rfl, n5, rfl⟩
      go_wp2_with fail
      go_ret
      exact ⟨rfl, below_drewN (unhide Hb4) _⟩
  · have hee : (hat == ev) = false := by simpa using hne
    have Hne := hide hne
    clear hne
    go_enter Try.func5, Try.ntmps5
    go_wp2_with fail
    refine (unhide HB).mono ?_
    rintro e w' ⟨rfl, hw⟩
    have hw := hw.symm
    subst hw
    go_wp2_with fail
    go_loop [11] (fun v => v = .int .i64 (0 : Int)) (fun _ => 0)
    case atStart => rfl
    case round =>
      subst hrel
      go_wp2_with fail
      refine (unhide HC1).mono ?_
      rintro e w1 ⟨a0', c0', rfl, hb1, hk1⟩
      have HC2 := hide (clone12_gen a1 lf c1 (by omega) F w1 ((unhide HA1).below hb1))
      have Hb1 := hide hb1
      have Hk1 := hide hk1
      clear hb1 hk1
      go_wp2_with fail
      refine (unhide HC2).mono ?_
      rintro e w2 ⟨a1', c1', rfl, hb2, hk2⟩
      have Hb2 := hide ((unhide Hb1).trans (hb2.mono (unhide Hb1).size))
      have Hk : Hid (∀ b o, (a0' = some ⟨b, o, none⟩ ∨ a1' = some ⟨b, o, none⟩) → b < w2.heap.size) := by
        rintro b o (h | h)
        · have := (unhide Hk1 b o h).2; have := hb2.size; omega
        · exact (hk2 b o h).2
      clear hb2 hk2
      go_wp2_with fail
      refine (zznew_any a0' 0 c0' hd hat w2).mono ?_
      rintro e w3 ⟨rfl, hR, hg3, hz3⟩
      have hb3 := (unhide Hb2).grown hg3 (unhide Hb2).size (by simp)
      have hN := zznext_any w2.heap.size a0' a1' 0 lf c0' c1' O F hd hat ev 0 (Or.inr ⟨unhide Hne, rfl⟩) w3 ⟨by omega, hlf, fun i hi => absurd hi (by omega), Or.inl rfl⟩ hR (fun b o h => by have := unhide Hk b o h; omega)
      rw [Sc.scan_stop (Nat.zero_le _)] at hN
      have HN := hide hN
      have Hb3 := hide hb3
      have Hle : Hid (w.heap.size ≤ w2.heap.size) := (unhide Hb2).size
      clear hR hg3 hz3 hb3 hN
      go_wp2_with fail
      refine (unhide HN).mono ?_
      rintro e w4 ⟨rfl, hR4, hg4⟩
      have Hb4 := hide ((unhide Hb3).grown hg4 (unhide Hb3).size (fun k e => by cases e; exact unhide Hle))
      have HH := hide (zzhead_any w2.heap.size _ _ w4 hR4.c4 hR4.c5)
      clear hR4 hg4
      go_wp2_with fail
      refine (unhide HH).mono ?_
      rintro e w5 ⟨rfl, n5, rfl⟩
      go_wp2_with fail
      go_ret
      exact ⟨rfl, below_drewN (unhide Hb4) _⟩

set_option maxHeartbeats 1000000 in
theorem find_zero_neg (a0 : Option Addr) (c0 : Nat) (a1 : Option Addr) (lf c1 : Nat) (hd ev : Int) (hneg : hd < 0) (w : World) (hlf : lf ≤ 65536) :
    Calls Try.prog 5 #[.slice a0 0 c0, .int .i64 hd, .int .i64 ev, .int .i64 ev, .slice a1 lf c1] w fun e w' => e = .returned (.bool true) ∧ Below w.heap.size w w' := by
  have HB := hide (bytes10_true a0 a1 0 lf c0 c1 hd ev ev (by omega) w)
  have hee : (ev == ev) = true := by simp
  go_enter Try.func5, Try.ntmps5
  go_wp2_with fail
  refine (unhide HB).mono ?_
  rintro e w' ⟨rfl, hw⟩
  have hw := hw.symm
  subst hw
  go_wp2_with fail
  go_loop [11] (fun v => v = .int .i64 (0 : Int)) (fun _ => 0)
  case atStart => rfl
  case round =>
    subst hrel
    go_wp2_with fail
    go_ret
    exact ⟨rfl, Below.refl _ _⟩
end Go.Proofs.Qxb6605639a.Nx
