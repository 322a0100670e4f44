/-
  THE WALK of the law FnTakeIsUndoneByTakingFromTheOriginal.
-/
import Derived.Test.Qxb6605665aTakeWalk
namespace Go.Proofs.Qxb6605665a
open Go.RowKit Mp

/-! ### The plain law -/
theorem model_second (K1 V1 K2 V2 : Nat → ByteArray) (n1 n2 : Nat) (f : ByteArray) : Model (tk (tk (obj K1 V1 n1) (obj K2 V2 n2) f) (obj K2 V2 n2) f) K1 V1 K2 V2 n1 n2 f :=
  model_take _ _ _ _ _ _ _ _ _ (KD_tk _ _ _ (KD_obj _ _ _)) (fun k h => by rw [lk_tk _ _ _ _ (KD_obj _ _ _), if_neg h]; exact lk_obj K1 V1 n1 k) (by rw [cnt_tk _ _ _ (KD_obj _ _ _)]; exact cnt_obj K1 V1 n1 f) (lk_obj K2 V2 n2 f)
theorem model_third (K1 V1 K2 V2 : Nat → ByteArray) (n1 n2 : Nat) (f : ByteArray) : Model (tk (tk (tk (obj K1 V1 n1) (obj K2 V2 n2) f) (obj K2 V2 n2) f) (obj K1 V1 n1) f) K1 V1 K1 V1 n1 n1 f :=
  model_take _ _ _ _ _ _ _ _ _ (KD_tk _ _ _ (KD_tk _ _ _ (KD_obj _ _ _))) (fun k h => by rw [lk_tk _ _ _ _ (KD_tk _ _ _ (KD_obj _ _ _)), if_neg h, lk_tk _ _ _ _ (KD_obj _ _ _), if_neg h]; exact lk_obj K1 V1 n1 k)
    (by rw [cnt_tk _ _ _ (KD_tk _ _ _ (KD_obj _ _ _)), cnt_tk _ _ _ (KD_obj _ _ _)]; exact cnt_obj K1 V1 n1 f) (lk_obj K1 V1 n1 f)
theorem length_third (K1 V1 K2 V2 : Nat → ByteArray) (n1 n2 : Nat) (f s : ByteArray) : (tk (tk (tk (obj K1 V1 n1) (obj K2 V2 n2) f) (obj K2 V2 n2) f) (obj K1 V1 n1) f).length = dcount K1 (keep s false) n1 n1 := by
  rw [(model_third K1 V1 K2 V2 n1 n2 f).len, ← length_obj K1 V1 n1 s, length_cnt, cnt_split _ f (KD_obj K1 V1 n1), cnt_obj, isSome_obj]

set_option maxRecDepth 100000 in
set_option maxHeartbeats 4000000 in
theorem undoLaw (a1 : Option Addr) (n1 c1 : Nat) (K1 V1 : Nat → ByteArray) (a2 : Option Addr) (n2 c2 : Nat) (K2 V2 : Nat → ByteArray) (f : ByteArray) (w : World)
    (h1 : Pairs w a1 n1 K1 V1) (h2 : Pairs w a2 n2 K2 V2) (e1 : a1 = none → n1 = 0 ∧ c1 = 0) (e2 : a2 = none → n2 = 0 ∧ c2 = 0) :
    Calls Try.prog 6 #[.slice a1 n1 c1, .slice a2 n2 c2, .string f] w fun e w' => e = .returned (.bool true) ∧ Below w.heap.size w w' := by
  have HB := hide (bytes28_any a1 n1 c1 K1 V1 a2 n2 c2 K2 V2 f w h1 h2)
  have HR1 := hide (pairBytes_any a1 n1 c1 K1 V1 w h1)
  have HR2 := hide (pairBytes_any a2 n2 c2 K2 V2 w h2)
  have HR3 := hide (textBytes_any f w)
  have HP1 := hide h1
  have HP2 := hide h2
  have He1 := hide e1
  have He2 := hide e2
  clear h1 h2 e1 e2
  go_enter Try.func6, Try.ntmps6
  go_wp2_with fail
  refine (unhide HB).mono ?_
  rintro e w' ⟨bb, rfl, hw⟩
  have hw := hw.symm
  subst hw
  cases bb with
  | false =>
    go_wp2_with fail
    go_ret
    exact ⟨rfl, Below.refl _ _⟩
  | true =>
    by_cases l1 : (4096 : Int) < (n1 : Int)
    · go_wp2_with fail
      go_ret
      exact ⟨rfl, Below.refl _ _⟩
    by_cases l2 : (4096 : Int) < (n2 : Int)
    · go_wp2_with fail
      go_ret
      exact ⟨rfl, Below.refl _ _⟩
    go_wp2_with fail
    refine (unhide HR1).mono ?_
    rintro e w' ⟨r1, rfl, r1a, r1b, _, hw⟩
    have hw := hw.symm
    subst hw
    go_wp2_with fail
    refine (unhide HR2).mono ?_
    rintro e w' ⟨r2, rfl, r2a, r2b, _, hw⟩
    have hw := hw.symm
    subst hw
    go_wp2_with fail
    refine (unhide HR3).mono ?_
    rintro e w' ⟨r3, rfl, r3a, r3b, hw⟩
    have hw := hw.symm
    subst hw
    by_cases l3 : (1048576 : Int) < r1 + r2 + r3
    · go_wp2_with fail
      go_ret
      exact ⟨rfl, Below.refl _ _⟩
    go_wp2_with fail
    refine (clone_any a1 n1 c1 K1 V1 w (unhide HP1) (unhide He1) (by omega)).mono ?_
    rintro e w1 ⟨b1', c1', rfl, p1, hb1, _⟩
    have P1 := hide p1
    have B1 := hide hb1
    have P2 := hide ((unhide HP2).of_below hb1)
    clear p1 hb1 HB HR1 HR2 HR3 HP1 HP2 He1
    go_wp2_with fail
    refine (clone_any a2 n2 c2 K2 V2 w1 (unhide P2) (unhide He2) (by omega)).mono ?_
    rintro e w2 ⟨b2', c2', rfl, p2, hb2, _⟩
    have Q1 := hide ((unhide P1).of_below hb2)
    have Q2 := hide p2
    have B2 := hide ((unhide B1).trans (hb2.mono (unhide B1).size))
    clear p2 hb2 P1 P2 B1 He2
    go_wp2_with fail
    refine (new_any b1' n1 c1' K1 V1 w2 (unhide Q1) (by omega)).mono ?_
    rintro e w3 ⟨g1, m1, rfl, o1, hb3, _⟩
    have O1 := hide o1
    have R1 := hide ((unhide Q1).of_below hb3)
    have R2 := hide ((unhide Q2).of_below hb3)
    have B3 := hide ((unhide B2).trans (hb3.mono (unhide B2).size))
    clear o1 hb3 Q1 Q2
    go_wp2_with fail
    refine (new_any b2' n2 c2' K2 V2 w3 (unhide R2) (by omega)).mono ?_
    rintro e w4 ⟨g2, m2, rfl, o2, hb4, hge⟩
    have hne : m2 ≠ m1 := by have := (unhide O1).map.lt; omega
    have Hne := hide hne
    have O1' := hide ((unhide O1).below hb4)
    have O2 := hide o2
    have S1 := hide ((unhide R1).of_below hb4)
    have S2 := hide ((unhide R2).of_below hb4)
    have B4 := hide ((unhide B3).trans (hb4.mono (unhide B3).size))
    have Hge : Hid (w.heap.size ≤ m1) := by
      show _ ≤ _
      have h3 := (unhide B2).size
      omega
    clear o2 hb4 hge hne R1 R2 O1 B2 B3
    go_wp2_with fail
    refine (new_any b1' n1 c1' K1 V1 w4 (unhide S1) (by omega)).mono ?_
    rintro e w5 ⟨g3, m3, rfl, o3, hb5, hge5⟩
    have hne3 : m3 ≠ m1 := by have := (unhide O1').map.lt; omega
    have Hne3 := hide hne3
    have A1 := hide ((unhide O1').below hb5)
    have A2 := hide ((unhide O2).below hb5)
    have A3 := hide o3
    have L1 := hide ((unhide S1).of_below hb5)
    have L2 := hide ((unhide S2).of_below hb5)
    have B5 := hide ((unhide B4).trans (hb5.mono (unhide B4).size))
    clear o3 hb5 hge5 hne3 S1 S2 O1' O2 B4
    go_wp2_with fail
    refine (take_obj f (unhide A1) (unhide A2) (unhide Hne)).mono ?_
    rintro e w6 ⟨rfl, t1, t2, tg⟩
    have M1 := hide ((unhide L1).other (unhide A1).map tg)
    have M2 := hide ((unhide L2).other (unhide A1).map tg)
    have T3 := hide ((unhide A3).other (unhide A1).map (unhide Hne3) tg)
    have B6 := hide ((unhide B5).grown tg (unhide B5).size (fun k e => by cases e; exact unhide Hge))
    have T1 := hide t1
    have T2 := hide t2
    clear t1 t2 tg L1 L2 A1 A2 A3 B5
    go_wp2_with fail
    refine (holds_obj (c1 := c1') (c2 := c2') (unhide T1) (model_first K1 V1 K2 V2 n1 n2 f) (unhide M1) (unhide M2) (by omega) (by omega)).mono ?_
    rintro e w7 ⟨rfl, q7, rfl⟩
    have A1 := hide ((unhide T1).drew q7)
    have A2 := hide ((unhide T2).drew q7)
    have A3 := hide ((unhide T3).drew q7)
    have L1 := hide ((unhide M1).drew q7)
    have L2 := hide ((unhide M2).drew q7)
    have B7 := hide (below_drewN (unhide B6) q7)
    clear T1 T2 T3 M1 M2 B6
    generalize w6.drewN q7 = w7 at *
    go_wp2_with fail
    refine (take_obj f (unhide A1) (unhide A2) (unhide Hne)).mono ?_
    rintro e w8 ⟨rfl, t1, t2, tg⟩
    have M1 := hide ((unhide L1).other (unhide A1).map tg)
    have M2 := hide ((unhide L2).other (unhide A1).map tg)
    have T3 := hide ((unhide A3).other (unhide A1).map (unhide Hne3) tg)
    have B8 := hide ((unhide B7).grown tg (unhide B7).size (fun k e => by cases e; exact unhide Hge))
    have T1 := hide t1
    clear t1 t2 tg L1 L2 A1 A2 A3 B7
    go_wp2_with fail
    refine (holds_obj (c1 := c1') (c2 := c2') (unhide T1) (model_second K1 V1 K2 V2 n1 n2 f) (unhide M1) (unhide M2) (by omega) (by omega)).mono ?_
    rintro e w9 ⟨rfl, q9, rfl⟩
    have A1 := hide ((unhide T1).drew q9)
    have A3 := hide ((unhide T3).drew q9)
    have L1 := hide ((unhide M1).drew q9)
    have B9 := hide (below_drewN (unhide B8) q9)
    clear T1 T3 M1 M2 B8
    generalize w8.drewN q9 = w9 at *
    go_wp2_with fail
    refine (take_obj f (unhide A1) (unhide A3) (unhide Hne3)).mono ?_
    rintro e wa ⟨rfl, t1, t2, tg⟩
    have M1 := hide ((unhide L1).other (unhide A1).map tg)
    have Ba := hide ((unhide B9).grown tg (unhide B9).size (fun k e => by cases e; exact unhide Hge))
    have T1 := hide t1
    clear t1 t2 tg L1 A1 A3 B9
    go_wp2_with fail
    refine (holds_obj (c1 := c1') (c2 := c1') (unhide T1) (model_third K1 V1 K2 V2 n1 n2 f) (unhide M1) (unhide M1) (by omega) (by omega)).mono ?_
    rintro e wb ⟨rfl, qb, rfl⟩
    have A1 := hide ((unhide T1).drew qb)
    have L1 := hide ((unhide M1).drew qb)
    have Bb := hide (below_drewN (unhide Ba) qb)
    clear T1 M1 Ba
    generalize wa.drewN qb = wb at *
    have HN := hide (zzlen_any g1 m1 _ wb (unhide A1).cell (unhide A1).map)
    have HD := hide (distinct_any b1' n1 c1' K1 V1 ⟨#[]⟩ false wb (unhide L1) (by omega))
    rw [length_third K1 V1 K2 V2 n1 n2 f ⟨#[]⟩] at HN
    generalize dcount K1 (keep ⟨#[]⟩ false) n1 n1 = D at *
    clear A1 L1
    go_wp2_with fail
    refine (unhide HN).mono ?_
    rintro e w' ⟨rfl, hw⟩
    have hw := hw.symm
    subst hw
    go_wp2_with fail
    refine (unhide HD).mono ?_
    rintro e wc ⟨rfl, qc, rfl⟩
    go_wp2_with fail
    go_ret
    exact ⟨rfl, below_drewN (unhide Bb) _⟩
end Go.Proofs.Qxb6605665a
