/-
  THE WALK of the law FnTakeSetsOrDropsOneField.
-/
import Derived.Test.Qxb6605665aTakeWalk
namespace Go.Proofs.Qxb6605665a
open Go.RowKit Mp

set_option maxRecDepth 100000 in
set_option maxHeartbeats 4000000 in
theorem takeLaw (a1 : Option Addr) (n1 c1 : Nat) (K1 V1 : Nat → ByteArray) (a2 : Option Addr) (n2 c2 : Nat) (K2 V2 : Nat → ByteArray) (f : ByteArray) (w : World)
    (h1 : Pairs w a1 n1 K1 V1) (h2 : Pairs w a2 n2 K2 V2) (e1 : a1 = none → n1 = 0 ∧ c1 = 0) (e2 : a2 = none → n2 = 0 ∧ c2 = 0) :
    Calls Try.prog 5 #[.slice a1 n1 c1, .slice a2 n2 c2, .string f] w fun e w' => e = .returned (.bool true) ∧ Below w.heap.size w w' := by
  have HB := hide (bytes21_any a1 n1 c1 K1 V1 a2 n2 c2 K2 V2 f w h1 h2)
  have HR1 := hide (pairBytes_any a1 n1 c1 K1 V1 w h1)
  have HR2 := hide (pairBytes_any a2 n2 c2 K2 V2 w h2)
  have HR3 := hide (textBytes_any f w)
  have HP1 := hide h1
  have HP2 := hide h2
  have He1 := hide e1
  have He2 := hide e2
  clear h1 h2 e1 e2
  go_enter Try.func5, Try.ntmps5
  go_wp2_with fail
  refine (unhide HB).mono ?_
  rintro e w' ⟨bb, rfl, hw⟩
  have hw := hw.symm
  subst hw
  cases bb with
  | false =>
    go_wp2_with fail
    go_ret
    exact ⟨rfl, Below.refl _ _⟩
  | true =>
    by_cases l1 : (4096 : Int) < (n1 : Int)
    · go_wp2_with fail
      go_ret
      exact ⟨rfl, Below.refl _ _⟩
    by_cases l2 : (4096 : Int) < (n2 : Int)
    · go_wp2_with fail
      go_ret
      exact ⟨rfl, Below.refl _ _⟩
    go_wp2_with fail
    refine (unhide HR1).mono ?_
    rintro e w' ⟨r1, rfl, r1a, r1b, _, hw⟩
    have hw := hw.symm
    subst hw
    go_wp2_with fail
    refine (unhide HR2).mono ?_
    rintro e w' ⟨r2, rfl, r2a, r2b, _, hw⟩
    have hw := hw.symm
    subst hw
    go_wp2_with fail
    refine (unhide HR3).mono ?_
    rintro e w' ⟨r3, rfl, r3a, r3b, hw⟩
    have hw := hw.symm
    subst hw
    by_cases l3 : (1048576 : Int) < r1 + r2 + r3
    · go_wp2_with fail
      go_ret
      exact ⟨rfl, Below.refl _ _⟩
    go_wp2_with fail
    refine (clone_any a1 n1 c1 K1 V1 w (unhide HP1) (unhide He1) (by omega)).mono ?_
    rintro e w1 ⟨b1', c1', rfl, p1, hb1, _⟩
    have P1 := hide p1
    have B1 := hide hb1
    have P2 := hide ((unhide HP2).of_below hb1)
    clear p1 hb1 HB HR1 HR2 HR3 HP1 HP2 He1
    go_wp2_with fail
    refine (clone_any a2 n2 c2 K2 V2 w1 (unhide P2) (unhide He2) (by omega)).mono ?_
    rintro e w2 ⟨b2', c2', rfl, p2, hb2, _⟩
    have Q1 := hide ((unhide P1).of_below hb2)
    have Q2 := hide p2
    have B2 := hide ((unhide B1).trans (hb2.mono (unhide B1).size))
    clear p2 hb2 P1 P2 B1 He2
    go_wp2_with fail
    refine (new_any b1' n1 c1' K1 V1 w2 (unhide Q1) (by omega)).mono ?_
    rintro e w3 ⟨g1, m1, rfl, o1, hb3, _⟩
    have O1 := hide o1
    have R1 := hide ((unhide Q1).of_below hb3)
    have R2 := hide ((unhide Q2).of_below hb3)
    have B3 := hide ((unhide B2).trans (hb3.mono (unhide B2).size))
    clear o1 hb3 Q1 Q2
    go_wp2_with fail
    refine (new_any b2' n2 c2' K2 V2 w3 (unhide R2) (by omega)).mono ?_
    rintro e w4 ⟨g2, m2, rfl, o2, hb4, hge⟩
    have hne : m2 ≠ m1 := by have := (unhide O1).map.lt; omega
    have HT := hide (take_obj f ((unhide O1).below hb4) o2 hne)
    have S1 := hide ((unhide R1).of_below hb4)
    have S2 := hide ((unhide R2).of_below hb4)
    have B4 := hide ((unhide B3).trans (hb4.mono (unhide B3).size))
    have Hmap := hide ((unhide O1).below hb4).map
    have Hge : Hid (w.heap.size ≤ m1) := by
      show _ ≤ _
      have h3 := (unhide B2).size
      omega
    clear o2 hb4 hge hne R1 R2 O1
    go_wp2_with fail
    refine (unhide HT).mono ?_
    rintro e w5 ⟨rfl, t1, t2, tg⟩
    have U1 := hide ((unhide S1).other (unhide Hmap) tg)
    have U2 := hide ((unhide S2).other (unhide Hmap) tg)
    have B5 := hide ((unhide B4).grown tg (unhide B4).size (fun k e => by cases e; exact unhide Hge))
    have T2 := hide t2
    have HH := hide (holds_obj (c1 := c1') (c2 := c2') t1 (model_first K1 V1 K2 V2 n1 n2 f) (unhide U1) (unhide U2) (by omega) (by omega))
    clear t1 t2 tg S1 S2 HT Hmap Hge
    go_wp2_with fail
    refine (unhide HH).mono ?_
    rintro e w6 ⟨rfl, q, rfl⟩
    have X2 := hide ((unhide U2).drew q)
    have Y2 := hide ((unhide T2).drew q)
    have B6 := hide (below_drewN (unhide B5) q)
    clear HH U1 U2 T2 B2 B3 B4 B5
    generalize w5.drewN q = w6 at *
    go_wp2_with fail
    go_loop [9] (fun i => ∃ k : Nat, k ≤ n2 ∧ i = .int .i64 (k : Int)) (fun i => n2 - (intOf i).toNat)
    case atStart => exact ⟨0, Nat.zero_le _, rfl⟩
    case round =>
      obtain ⟨k, hk, rfl⟩ := hrel
      by_cases hlt : k < n2
      · have HG := hide (zzget_any g2 m2 (obj K2 V2 n2) (K2 k) _ w6 (unhide Y2).cell (unhide Y2).map (lk_obj K2 V2 n2 (K2 k)))
        have HL := hide (last_any b2' n2 c2' K2 V2 (K2 k) w6 (unhide X2) (by omega))
        rcases unhide X2 with h0 | ⟨bb, off, e, hcc⟩
        · omega
        · subst e
          obtain ⟨q1, q2⟩ := hcc k hlt
          have hlt' : (k : Int) < (n2 : Int) := by omega
          clear hcc q2 X2 Y2
          generalize last K2 V2 n2 (K2 k) = r at *
          go_wp2_with fail
          refine (unhide HG).mono ?_
          rintro e w' ⟨rfl, hw⟩
          have hw := hw.symm
          subst hw
          go_wp2_with fail
          refine (unhide HL).mono ?_
          rintro e w' ⟨rfl, hw⟩
          have hw := hw.symm
          subst hw
          have e2 := eq_true (rfl : r.getD ⟨#[]⟩ = r.getD ⟨#[]⟩)
          go_wp2_with fail
          go_round
          case rel => exact ⟨k + 1, by omega, by go_num⟩
          case measure => simp [intOf]; omega
      · have hlt' : ¬ (k : Int) < (n2 : Int) := by omega
        have HN := hide (zzlen_any g2 m2 (obj K2 V2 n2) w6 (unhide Y2).cell (unhide Y2).map)
        have HD := hide (distinct_any b2' n2 c2' K2 V2 ⟨#[]⟩ false w6 (unhide X2) (by omega))
        rw [length_obj K2 V2 n2 ⟨#[]⟩] at HN
        generalize dcount K2 (keep ⟨#[]⟩ false) n2 n2 = D at *
        clear hlt hk X2 Y2
        go_wp2_with fail
        refine (unhide HN).mono ?_
        rintro e w' ⟨rfl, hw⟩
        have hw := hw.symm
        subst hw
        go_wp2_with fail
        refine (unhide HD).mono ?_
        rintro e w7 ⟨rfl, q7, rfl⟩
        go_wp2_with fail
        go_ret
        exact ⟨rfl, below_drewN (unhide B6) _⟩
end Go.Proofs.Qxb6605665a
