/-
  THE WALK of the law FnNextFindsFirstFreeFromHead: the other ways.
-/
import Derived.Test.Qxb6605639aFindWalk
namespace Go.Proofs.Qxb6605639a.Nx
open Go.RowKit

set_option maxHeartbeats 1000000 in
theorem find_other (b off lo c0 : Nat) (ad1 : Addr) (lf c1 : Nat) (O : Nat → Int) (F : Nat → Bool) (hd hat ev : Int) (hne : (hat == ev) = false) (w : World) (h0 : 0 < lo) (hlo : lo ≤ 65536) (hlf : lf ≤ 65536) (hsum : 4 * lo + lf ≤ 1048576)
    (ho : ∀ i, i < lo → w.cell? ⟨b, off + i, none⟩ = some (.int .i32 (O i))) (hf : ∀ i, i < lf → w.cell? (ad1.add i) = some (.bool (F i))) (hok : ∀ i, i < lo → 0 ≤ O i ∧ O i < lf) :
    Calls Try.prog 5 #[.slice (some ⟨b, off, none⟩) lo c0, .int .i64 hd, .int .i64 hat, .int .i64 ev, .slice (some ad1) lf c1] w fun e w' => e = .returned (.bool true) ∧ Below w.heap.size w w' := by
  have Ho := hide ho
  have Hf := hide hf
  have Hok := hide hok
  have HC1 := hide (clone11_pos ⟨b, off, none⟩ lo c0 (by omega) O w (fun i hi => by rw [add_at]; exact ho i hi))
  have HB := hide (bytes10_true (some ⟨b, off, none⟩) (some ad1) lo lf c0 c1 hd hat ev (by omega) w)
  have hsum' : 4 * (lo : Int) + (lf : Int) ≤ 1048576 := by omega
  clear ho hf hok
  go_enter Try.func5, Try.ntmps5
  go_wp2_with fail
  refine (unhide HB).mono ?_
  rintro e w' ⟨rfl, hw⟩
  have hw := hw.symm
  subst hw
  go_wp2_with fail
  go_loop [11] (fun v => ∃ k : Nat, k ≤ lo ∧ v = .int .i64 (k : Int)) (fun v => lo - (intOf v).toNat)
  case atStart => exact ⟨0, Nat.zero_le _, rfl⟩
  case round =>
    obtain ⟨k, hk, rfl⟩ := hrel
    by_cases hlt : k < lo
    · have hc := unhide Ho k hlt
      obtain ⟨o1, o2⟩ := unhide Hok k hlt
      have hn : ¬ O k < 0 := by omega
      have hlt' : (k : Int) < (lo : Int) := by omega
      go_wp2_with fail
      go_round
      case rel => exact ⟨k + 1, by omega, by go_num⟩
      case measure => simp [intOf]; omega
    · have hlt' : ¬ (k : Int) < (lo : Int) := by omega
      clear hk hlt
      go_wp2_with fail
      refine (unhide HC1).mono ?_
      rintro e w1 ⟨rfl, hb1, hz1, hc1, _⟩
      have Hb1 := hide hb1
      have Hz1 := hide hz1
      have Hc1 := hide hc1
      clear hb1 hz1 hc1
      go_wp2_with fail
      refine (clone12_pos ad1 lf c1 (by omega) F w1 (fun i hi => ?_)).mono ?_
      · have := unhide Hf i hi
        rw [(unhide Hb1).cell (World.block_lt_of_cell? w _ this)]; exact this
      rintro e w2 ⟨rfl, hb2, hz2, hc2, _⟩
      have e1 : ∀ i, i < lo → w2.cell? ⟨w.heap.size, i, none⟩ = some (.int .i32 (O i)) := fun i hi => by
        rw [hb2.cell (p := ⟨w.heap.size, i, none⟩) (by rw [unhide Hz1]; exact Nat.lt_succ_self _)]; exact unhide Hc1 i hi
      have HS := hide (seen_of hlo hlf (unhide Hok) e1 hc2)
      have Hb2 := hide (((unhide Hb1).trans (hb2.mono (by rw [unhide Hz1]; exact Nat.le_succ _))))
      have Hz2 := hide hz2
      have E1 := hide e1
      have E2 := hide hc2
      clear hb2 hz2 hc2 e1 Hf Ho HC1 HB Hc1
      have hsl : (0 : Int) < (lo : Int) := by omega
      go_wp2_with fail
      go_loop [13, 14] (fun wt i => ∃ (j : Int) (m : Nat), Hid (j + 1 = (m : Int)) ∧ 0 ≤ m ∧ m ≤ lo ∧ i = .int .i64 j ∧ wt = .int .i64 (Sc.scan (freeAt O F) lo m : Nat)) (fun _ i => (intOf i + 1).toNat)
      case atStart => exact ⟨(lo : Int) - 1, lo, by show _ = _; omega, by omega, Nat.le_refl _, rfl, by rw [Sc.scan_stop (Nat.le_refl lo)]⟩
      case round =>
        obtain ⟨j, m, hj, hsm, hml, rfl, rfl⟩ := hrel
        by_cases hlt : 0 < m
        · obtain ⟨m, rfl⟩ : ∃ m', m = m' + 1 := ⟨m - 1, by omega⟩
          obtain rfl : j = (m : Int) := by have := unhide hj; omega
          have hoi := unhide E1 m (by omega)
          obtain ⟨o1, o2⟩ := unhide Hok m (by omega)
          have hfi := unhide E2 (O m).toNat (by omega)
          have hsm' : (0 : Int) ≤ (m : Int) := by omega
          have hml' : (m : Int) < (lo : Int) := by omega
          cases hp : F (O m).toNat with
          | true =>
            rw [hp] at hfi
            have hfin := hide (Sc.scan_hit (P := freeAt O F) (n := lo) (s := m) (by omega) hp)
            clear hp
            go_wp2_with fail
            go_round
            case rel => exact ⟨(m : Int) - 1, m, by show _ = _; omega, by omega, by omega, rfl, by rw [unhide hfin]⟩
            case measure => simp [intOf]
          | false =>
            rw [hp] at hfi
            have hfin := hide (Sc.scan_miss (P := freeAt O F) (n := lo) (s := m) (by omega) hp)
            clear hp
            go_wp2_with fail
            go_round
            case rel => exact ⟨(m : Int) - 1, m, by show _ = _; omega, by omega, by omega, rfl, by rw [unhide hfin]⟩
            case measure => simp [intOf]
        · obtain rfl : m = 0 := by omega
          have hjl : ¬ (0 : Int) ≤ j := by have := unhide hj; omega
          clear hlt hsm hml
          go_wp2_with fail
          refine (zznew_any (some ⟨w.heap.size, 0, none⟩) lo lo hd hat w2).mono ?_
          rintro e w3 ⟨rfl, hR, hg3, hz3⟩
          obtain ⟨hS3, hak3, hb3⟩ := after_new (w := w) (unhide HS) (by rw [unhide Hz2, unhide Hz1]; omega) (by rw [unhide Hz2]; omega) (unhide Hb2) hg3 hz3
          have HN := hide (zznext_any w2.heap.size _ _ lo lf lo lf O F hd hat ev 0 (Or.inr ⟨by simpa using hne, rfl⟩) w3 hS3 hR hak3)
          have Hb3 := hide hb3
          have Hle : Hid (w.heap.size ≤ w2.heap.size) := (unhide Hb2).size
          clear hR hg3 hz3 hS3 hak3 hb3
          go_wp2_with fail
          refine (unhide HN).mono ?_
          rintro e w4 ⟨rfl, hR4, hg4⟩
          have Hb4 := hide ((unhide Hb3).grown hg4 (unhide Hb3).size (fun k e => by cases e; exact unhide Hle))
          have HH := hide (zzhead_any w2.heap.size _ _ w4 hR4.c4 hR4.c5)
          clear hR4 hg4
          go_wp2_with fail
          refine (unhide HH).mono ?_
          rintro e w5 ⟨rfl, n5, rfl⟩
          go_wp2_with fail
          go_ret
          exact ⟨rfl, below_drewN (unhide Hb4) _⟩

set_option maxHeartbeats 1000000 in
theorem find_past (b off lo c0 : Nat) (ad1 : Addr) (lf c1 : Nat) (O : Nat → Int) (F : Nat → Bool) (s : Nat) (ev : Int) (w : World) (h0 : 0 < lo) (hlo : lo ≤ 65536) (hlf : lf ≤ 65536) (hsum : 4 * lo + lf ≤ 1048576)
    (ho : ∀ i, i < lo → w.cell? ⟨b, off + i, none⟩ = some (.int .i32 (O i))) (hf : ∀ i, i < lf → w.cell? (ad1.add i) = some (.bool (F i))) (hok : ∀ i, i < lo → 0 ≤ O i ∧ O i < lf) (hslo : lo ≤ s) :
    Calls Try.prog 5 #[.slice (some ⟨b, off, none⟩) lo c0, .int .i64 (s : Int), .int .i64 ev, .int .i64 ev, .slice (some ad1) lf c1] w fun e w' => e = .returned (.bool true) ∧ Below w.heap.size w w' := by
  have Ho := hide ho
  have Hf := hide hf
  have Hok := hide hok
  have HC1 := hide (clone11_pos ⟨b, off, none⟩ lo c0 (by omega) O w (fun i hi => by rw [add_at]; exact ho i hi))
  have HB := hide (bytes10_true (some ⟨b, off, none⟩) (some ad1) lo lf c0 c1 s ev ev (by omega) w)
  have hsum' : 4 * (lo : Int) + (lf : Int) ≤ 1048576 := by omega
  have hee : (ev == ev) = true := by simp
  clear ho hf hok
  go_enter Try.func5, Try.ntmps5
  go_wp2_with fail
  refine (unhide HB).mono ?_
  rintro e w' ⟨rfl, hw⟩
  have hw := hw.symm
  subst hw
  go_wp2_with fail
  go_loop [11] (fun v => ∃ k : Nat, k ≤ lo ∧ v = .int .i64 (k : Int)) (fun v => lo - (intOf v).toNat)
  case atStart => exact ⟨0, Nat.zero_le _, rfl⟩
  case round =>
    obtain ⟨k, hk, rfl⟩ := hrel
    by_cases hlt : k < lo
    · have hc := unhide Ho k hlt
      obtain ⟨o1, o2⟩ := unhide Hok k hlt
      have hn : ¬ O k < 0 := by omega
      have hlt' : (k : Int) < (lo : Int) := by omega
      go_wp2_with fail
      go_round
      case rel => exact ⟨k + 1, by omega, by go_num⟩
      case measure => simp [intOf]; omega
    · have hlt' : ¬ (k : Int) < (lo : Int) := by omega
      clear hk hlt
      go_wp2_with fail
      refine (unhide HC1).mono ?_
      rintro e w1 ⟨rfl, hb1, hz1, hc1, _⟩
      have Hb1 := hide hb1
      have Hz1 := hide hz1
      have Hc1 := hide hc1
      clear hb1 hz1 hc1
      go_wp2_with fail
      refine (clone12_pos ad1 lf c1 (by omega) F w1 (fun i hi => ?_)).mono ?_
      · have := unhide Hf i hi
        rw [(unhide Hb1).cell (World.block_lt_of_cell? w _ this)]; exact this
      rintro e w2 ⟨rfl, hb2, hz2, hc2, _⟩
      have e1 : ∀ i, i < lo → w2.cell? ⟨w.heap.size, i, none⟩ = some (.int .i32 (O i)) := fun i hi => by
        rw [hb2.cell (p := ⟨w.heap.size, i, none⟩) (by rw [unhide Hz1]; exact Nat.lt_succ_self _)]; exact unhide Hc1 i hi
      have HS := hide (seen_of hlo hlf (unhide Hok) e1 hc2)
      have Hb2 := hide (((unhide Hb1).trans (hb2.mono (by rw [unhide Hz1]; exact Nat.le_succ _))))
      have Hz2 := hide hz2
      clear hb2 hz2 hc2 e1 Hf Ho HC1 HB Hc1
      have hsl : ¬ (s : Int) < (lo : Int) := by omega
      go_wp2_with fail
      refine (zznew_any (some ⟨w.heap.size, 0, none⟩) lo lo s ev w2).mono ?_
      rintro e w3 ⟨rfl, hR, hg3, hz3⟩
      obtain ⟨hS3, hak3, hb3⟩ := after_new (w := w) (unhide HS) (by rw [unhide Hz2, unhide Hz1]; omega) (by rw [unhide Hz2]; omega) (unhide Hb2) hg3 hz3
      have hN := zznext_any w2.heap.size _ _ lo lf lo lf O F s ev ev s (Or.inl ⟨rfl, rfl⟩) w3 hS3 hR hak3
      rw [Sc.scan_stop hslo] at hN
      have HN := hide hN
      have Hb3 := hide hb3
      have Hle : Hid (w.heap.size ≤ w2.heap.size) := (unhide Hb2).size
      clear hR hg3 hz3 hS3 hak3 hb3 hN
      go_wp2_with fail
      refine (unhide HN).mono ?_
      rintro e w4 ⟨rfl, hR4, hg4⟩
      have Hb4 := hide ((unhide Hb3).grown hg4 (unhide Hb3).size (fun k e => by cases e; exact unhide Hle))
      have HH := hide (zzhead_any w2.heap.size _ _ w4 hR4.c4 hR4.c5)
      clear hR4 hg4
      go_wp2_with fail
      refine (unhide HH).mono ?_
      rintro e w5 ⟨rfl, n5, rfl⟩
      go_wp2_with fail
      go_ret
      exact ⟨rfl, below_drewN (unhide Hb4) _⟩

set_option maxHeartbeats 1000000 in
theorem find_neg (b off lo c0 : Nat) (a1 : Option Addr) (lf c1 : Nat) (O : Nat → Int) (hd ev : Int) (hneg : hd < 0) (w : World) (hlo : lo ≤ 65536) (hlf : lf ≤ 65536) (hsum : 4 * lo + lf ≤ 1048576)
    (ho : ∀ i, i < lo → w.cell? ⟨b, off + i, none⟩ = some (.int .i32 (O i))) (hok : ∀ i, i < lo → 0 ≤ O i ∧ O i < lf) :
    Calls Try.prog 5 #[.slice (some ⟨b, off, none⟩) lo c0, .int .i64 hd, .int .i64 ev, .int .i64 ev, .slice a1 lf c1] w fun e w' => e = .returned (.bool true) ∧ Below w.heap.size w w' := by
  have Ho := hide ho
  have Hok := hide hok
  have HB := hide (bytes10_true (some ⟨b, off, none⟩) a1 lo lf c0 c1 hd ev ev (by omega) w)
  have hsum' : 4 * (lo : Int) + (lf : Int) ≤ 1048576 := by omega
  have hee : (ev == ev) = true := by simp
  clear ho hok
  go_enter Try.func5, Try.ntmps5
  go_wp2_with fail
  refine (unhide HB).mono ?_
  rintro e w' ⟨rfl, hw⟩
  have hw := hw.symm
  subst hw
  go_wp2_with fail
  go_loop [11] (fun v => ∃ k : Nat, k ≤ lo ∧ v = .int .i64 (k : Int)) (fun v => lo - (intOf v).toNat)
  case atStart => exact ⟨0, Nat.zero_le _, rfl⟩
  case round =>
    obtain ⟨k, hk, rfl⟩ := hrel
    by_cases hlt : k < lo
    · have hc := unhide Ho k hlt
      obtain ⟨o1, o2⟩ := unhide Hok k hlt
      have hn : ¬ O k < 0 := by omega
      have hlt' : (k : Int) < (lo : Int) := by omega
      go_wp2_with fail
      go_round
      case rel => exact ⟨k + 1, by omega, by go_num⟩
      case measure => simp [intOf]; omega
    · have hlt' : ¬ (k : Int) < (lo : Int) := by omega
      clear hk hlt
      go_wp2_with fail
      go_ret
      exact ⟨rfl, Below.refl _ _⟩

set_option maxHeartbeats 1000000 in
theorem find_invalid (b off lo c0 : Nat) (a1 : Option Addr) (lf c1 : Nat) (O : Nat → Int) (hd hat ev : Int) (w : World) (hlo : lo ≤ 65536) (hlf : lf ≤ 65536) (hsum : 4 * lo + lf ≤ 1048576)
    (ho : ∀ i, i < lo → w.cell? ⟨b, off + i, none⟩ = some (.int .i32 (O i))) (hwf : ∀ i, i < lo → -2147483648 ≤ O i ∧ O i ≤ 2147483647) (hbad : ¬ ∀ i, i < lo → 0 ≤ O i ∧ O i < lf) :
    Calls Try.prog 5 #[.slice (some ⟨b, off, none⟩) lo c0, .int .i64 hd, .int .i64 hat, .int .i64 ev, .slice a1 lf c1] w fun e w' => e = .returned (.bool true) ∧ Below w.heap.size w w' := by
  have Ho := hide ho
  have Hw := hide hwf
  have Hbad := hide hbad
  have HB := hide (bytes10_true (some ⟨b, off, none⟩) a1 lo lf c0 c1 hd hat ev (by omega) w)
  have hsum' : 4 * (lo : Int) + (lf : Int) ≤ 1048576 := by omega
  clear ho hbad hwf
  go_enter Try.func5, Try.ntmps5
  go_wp2_with fail
  refine (unhide HB).mono ?_
  rintro e w' ⟨rfl, hw⟩
  have hw := hw.symm
  subst hw
  go_wp2_with fail
  go_loop [11] (fun v => ∃ k : Nat, k ≤ lo ∧ v = .int .i64 (k : Int) ∧ Hid (∀ i, i < k → 0 ≤ O i ∧ O i < lf)) (fun v => lo - (intOf v).toNat)
  case atStart => exact ⟨0, Nat.zero_le _, rfl, fun i hi => absurd hi (by omega)⟩
  case round =>
    obtain ⟨k, hk, rfl, hval⟩ := hrel
    by_cases hlt : k < lo
    · have hc := unhide Ho k hlt
      obtain ⟨w1, w2⟩ := unhide Hw k hlt
      have hlt' : (k : Int) < (lo : Int) := by omega
      by_cases hn : O k < 0
      · go_wp2_with fail
        go_ret
        exact ⟨rfl, Below.refl _ _⟩
      · by_cases hg : O k < (lf : Int)
        · go_wp2_with fail
          go_round
          case rel =>
            refine ⟨k + 1, by omega, by go_num, fun i hi => ?_⟩
            by_cases e : i = k
            · subst e; omega
            · exact unhide hval i (by omega)
          case measure => simp [intOf]; omega
        · go_wp2_with fail
          go_ret
          exact ⟨rfl, Below.refl _ _⟩
    · exact absurd (fun i hi => unhide hval i (by omega)) (unhide Hbad)

set_option maxHeartbeats 1000000 in
theorem find_early (a0 a1 : Option Addr) (lo c0 lf c1 : Nat) (hd hat ev : Int) (w : World) (h : 65536 < lo ∨ 65536 < lf ∨ 1048576 < 4 * lo + lf) :
    Calls Try.prog 5 #[.slice a0 lo c0, .int .i64 hd, .int .i64 hat, .int .i64 ev, .slice a1 lf c1] w fun e w' => e = .returned (.bool true) ∧ Below w.heap.size w w' := by
  by_cases hb : lo + lf ≤ 1048576
  · have HB := hide (bytes10_true a0 a1 lo lf c0 c1 hd hat ev hb w)
    have hb1 : (lo : Int) + (lf : Int) ≤ 1048576 := by omega
    by_cases h1 : (65536 : Int) < (lo : Int)
    · go_enter Try.func5, Try.ntmps5
      go_wp2_with fail
      refine (unhide HB).mono ?_
      rintro e w' ⟨rfl, hw⟩
      have hw := hw.symm
      subst hw
      go_wp2_with fail
      go_ret
      exact ⟨rfl, Below.refl _ _⟩
    · by_cases h2 : (65536 : Int) < (lf : Int)
      · go_enter Try.func5, Try.ntmps5
        go_wp2_with fail
        refine (unhide HB).mono ?_
        rintro e w' ⟨rfl, hw⟩
        have hw := hw.symm
        subst hw
        go_wp2_with fail
        go_ret
        exact ⟨rfl, Below.refl _ _⟩
      · exact absurd h (by omega)
  · have HB := hide (bytes10_false a0 a1 lo lf c0 c1 hd hat ev (by omega) w)
    go_enter Try.func5, Try.ntmps5
    go_wp2_with fail
    refine (unhide HB).mono ?_
    rintro e w' ⟨rfl, hw⟩
    have hw := hw.symm
    subst hw
    go_wp2_with fail
    go_ret
    exact ⟨rfl, Below.refl _ _⟩

end Go.Proofs.Qxb6605639a.Nx
