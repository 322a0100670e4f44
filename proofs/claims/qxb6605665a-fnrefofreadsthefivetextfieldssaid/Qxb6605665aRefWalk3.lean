/-
  THE WALK of the law FnRefOfReadsTheFiveTextFields.
-/
import Derived.Test.Qxb6605665aRefWalk2
namespace Go.Proofs.Qxb6605665a
open Go.RowKit Mp

set_option maxRecDepth 100000 in
set_option maxHeartbeats 8000000 in
theorem refLaw_plain (a1 : Option Addr) (n1 c1 : Nat) (K1 V1 : Nat → ByteArray) (a2 : Option Addr) (n2 c2 : Nat) (T2 : Nat → ByteArray) (a3 : Option Addr) (n3 c3 : Nat) (K3 V3 : Nat → ByteArray) (a4 : Option Addr) (n4 c4 : Nat) (T4 : Nat → ByteArray) (w : World)
    (h1 : Pairs w a1 n1 K1 V1) (h2 : Strs w a2 n2 T2) (h3 : Pairs w a3 n3 K3 V3) (h4 : Strs w a4 n4 T4) (e1 : a1 = none → n1 = 0 ∧ c1 = 0) (e2 : a2 = none → n2 = 0 ∧ c2 = 0) (e3 : a3 = none → n3 = 0 ∧ c3 = 0) (e4 : a4 = none → n4 = 0 ∧ c4 = 0) :
    Calls Try.prog 3 #[.slice a1 n1 c1, .slice a2 n2 c2, .slice a3 n3 c3, .slice a4 n4 c4, .bool false] w fun e w' => e = .returned (.bool true) ∧ Below w.heap.size w w' := by
  have HB := hide (bytes9_any a1 n1 c1 K1 V1 a2 n2 c2 T2 a3 n3 c3 K3 V3 a4 n4 c4 T4 false w h1 h2 h3 h4)
  have HR1 := hide (pairBytes_any a1 n1 c1 K1 V1 w h1)
  have HR2 := hide (listBytes_any a2 n2 c2 T2 w h2)
  have HR3 := hide (pairBytes_any a3 n3 c3 K3 V3 w h3)
  have HR4 := hide (listBytes_any a4 n4 c4 T4 w h4)
  have HP1 := hide h1
  have HP2 := hide h2
  have HP3 := hide h3
  have HP4 := hide h4
  have He1 := hide e1
  have He2 := hide e2
  have He3 := hide e3
  have He4 := hide e4
  clear h1 h2 h3 h4 e1 e2 e3 e4
  go_enter Try.func3, Try.ntmps3
  go_wp2_with fail
  refine (unhide HB).mono ?_
  rintro e w' ⟨bb, rfl, hw⟩
  have hw := hw.symm
  subst hw
  cases bb with
  | false =>
    go_wp2_with fail
    go_ret
    exact ⟨rfl, Below.refl _ _⟩
  | true =>
    go_wp2_with fail
    refine (unhide HR1).mono ?_
    rintro e w' ⟨r1, rfl, r1a, r1b, r1c, hw⟩
    have hw := hw.symm
    subst hw
    go_wp2_with fail
    refine (unhide HR2).mono ?_
    rintro e w' ⟨r2, rfl, r2a, r2b, r2c, hw⟩
    have hw := hw.symm
    subst hw
    go_wp2_with fail
    refine (unhide HR3).mono ?_
    rintro e w' ⟨r3, rfl, r3a, r3b, r3c, hw⟩
    have hw := hw.symm
    subst hw
    go_wp2_with fail
    refine (unhide HR4).mono ?_
    rintro e w' ⟨r4, rfl, r4a, r4b, r4c, hw⟩
    have hw := hw.symm
    subst hw
    by_cases l3 : (1048576 : Int) < r1 + r2 + r3 + r4
    · clear r1c r2c r3c r4c
      go_wp2_with fail
      go_ret
      exact ⟨rfl, Below.refl _ _⟩
    have N1 : n1 ≤ 1048576 := by have := r1c (by omega); omega
    have N2 : n2 ≤ 1048576 := by have := r2c (by omega); omega
    have N3 : n3 ≤ 1048576 := by have := r3c (by omega); omega
    have N4 : n4 ≤ 1048576 := by have := r4c (by omega); omega
    clear r1c r2c r3c r4c HB HR1 HR2 HR3 HR4
    go_wp2_with fail
    refine (clone_any a1 n1 c1 K1 V1 w (unhide HP1) (unhide He1) N1).mono ?_
    rintro e w1 ⟨b1', c1', rfl, p1, hb1, _⟩
    have P1 := hide p1
    have P2 := hide ((unhide HP2).of_below hb1)
    have P3 := hide ((unhide HP3).of_below hb1)
    have P4 := hide ((unhide HP4).of_below hb1)
    have B1 := hide hb1
    clear p1 hb1 HP1 HP2 HP3 HP4 He1
    go_wp2_with fail
    refine (cloneL_any a2 n2 c2 T2 w1 (unhide P2) (unhide He2) N2).mono ?_
    rintro e w2 ⟨b2', c2', rfl, p2, hb2⟩
    have Q1 := hide ((unhide P1).of_below hb2)
    have Q2 := hide p2
    have Q3 := hide ((unhide P3).of_below hb2)
    have Q4 := hide ((unhide P4).of_below hb2)
    have B2 := hide ((unhide B1).trans (hb2.mono (unhide B1).size))
    clear p2 hb2 P1 P2 P3 P4 B1 He2
    go_wp2_with fail
    refine (clone_any a3 n3 c3 K3 V3 w2 (unhide Q3) (unhide He3) N3).mono ?_
    rintro e w3 ⟨b3', c3', rfl, p3, hb3, _⟩
    have P1 := hide ((unhide Q1).of_below hb3)
    have P2 := hide ((unhide Q2).of_below hb3)
    have P3 := hide p3
    have P4 := hide ((unhide Q4).of_below hb3)
    have B3 := hide ((unhide B2).trans (hb3.mono (unhide B2).size))
    clear p3 hb3 Q1 Q2 Q3 Q4 B2 He3
    go_wp2_with fail
    refine (cloneL_any a4 n4 c4 T4 w3 (unhide P4) (unhide He4) N4).mono ?_
    rintro e w4 ⟨b4', c4', rfl, p4, hb4⟩
    have Q1 := hide ((unhide P1).of_below hb4)
    have Q2 := hide ((unhide P2).of_below hb4)
    have Q3 := hide ((unhide P3).of_below hb4)
    have Q4 := hide p4
    have B4 := hide ((unhide B3).trans (hb4.mono (unhide B3).size))
    clear p4 hb4 P1 P2 P3 P4 B3 He4
    go_wp2_with fail
    refine (new2_any b1' n1 c1' K1 V1 b2' n2 c2' T2 w4 (unhide Q1) (unhide Q2) N1 N2).mono ?_
    rintro e w5 ⟨g1, m1, rfl, o1, hb5, hge1⟩
    have P1 := hide ((unhide Q1).of_below hb5)
    have P2 := hide ((unhide Q2).of_below hb5)
    have P3 := hide ((unhide Q3).of_below hb5)
    have P4 := hide ((unhide Q4).of_below hb5)
    have O1 := hide o1
    have Hge : Hid (w.heap.size ≤ m1) := by
      show _ ≤ _
      have := (unhide B4).size
      omega
    have B5 := hide ((unhide B4).trans (hb5.mono (unhide B4).size))
    clear o1 hb5 hge1 Q1 Q2 Q3 Q4 B4
    go_wp2_with fail
    refine (zzRefOf_any g1 m1 _ _ _ _ _ _ rfl w5 (unhide O1).cell (refOf_plain (unhide O1).map)).mono ?_
    rintro e w6 ⟨rfl, hb6⟩
    have Q1 := hide ((unhide P1).of_below hb6)
    have Q2 := hide ((unhide P2).of_below hb6)
    have B6 := hide ((unhide B5).trans (hb6.mono (unhide B5).size))
    clear hb6 P1 P2 P3 P4 B5 O1 Hge
    have HX1 := fun c => hide (textOf_any b1' n1 c1' K1 V1 b2' n2 c2' T2 ⟨#[97, 112, 105, 86, 101, 114, 115, 105, 111, 110]⟩ (w6.alloc (.cells c 33)) ((unhide Q1).of_below ((Below.refl _ _).alloc (Nat.le_refl _) _)) ((unhide Q2).of_below ((Below.refl _ _).alloc (Nat.le_refl _) _)) N1 N2)
    have HX2 := fun c => hide (textOf_any b1' n1 c1' K1 V1 b2' n2 c2' T2 ⟨#[107, 105, 110, 100]⟩ (w6.alloc (.cells c 33)) ((unhide Q1).of_below ((Below.refl _ _).alloc (Nat.le_refl _) _)) ((unhide Q2).of_below ((Below.refl _ _).alloc (Nat.le_refl _) _)) N1 N2)
    generalize textOf K1 V1 n1 T2 n2 ⟨#[97, 112, 105, 86, 101, 114, 115, 105, 111, 110]⟩ = x1 at *
    generalize textOf K1 V1 n1 T2 n2 ⟨#[107, 105, 110, 100]⟩ = x2 at *
    have E1 := eq_true (rfl : x1 = x1)
    have E2 := eq_true (rfl : x2 = x2)
    clear Q1 Q2
    go_wp2_with fail
    refine (unhide (HX1 _)).mono ?_
    rintro e w' ⟨rfl, hw⟩
    have hw := hw.symm
    subst hw
    go_wp2_with fail
    refine (unhide (HX2 _)).mono ?_
    rintro e w' ⟨rfl, hw⟩
    have hw := hw.symm
    subst hw
    clear HX1 HX2
    go_wp2_with fail
    go_ret
    have hsz := (unhide B6).size
    exact ⟨rfl, ((unhide B6).alloc hsz _).alloc (by simp; omega) _⟩
end Go.Proofs.Qxb6605665a
