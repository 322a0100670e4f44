/-
  THE WALK of the law FnNextCachedHeadAgreesWithFreshScan: the way of a valid order that is not empty.
-/
import Derived.Test.Qxb6605639aCacheWalk
namespace Go.Proofs.Qxb6605639a.Nx
open Go.RowKit

set_option maxRecDepth 100000 in
set_option maxHeartbeats 2000000 in
theorem cache_pos (b off lo c0 : Nat) (ad1 : Addr) (lf c1 : Nat) (O : Nat → Int) (F : Nat → Bool) (st ev : Int) (w : World) (h0 : 0 < lo) (hlo : lo ≤ 4096) (hlf : lf ≤ 65536) (hsum : 4 * lo + lf ≤ 1048576)
    (ho : ∀ i, i < lo → w.cell? ⟨b, off + i, none⟩ = some (.int .i32 (O i))) (hf : ∀ i, i < lf → w.cell? (ad1.add i) = some (.bool (F i))) (hok : ∀ i, i < lo → 0 ≤ O i ∧ O i < lf) :
    Calls Try.prog 6 #[.slice (some ⟨b, off, none⟩) lo c0, .int .i64 st, .int .i64 ev, .slice (some ad1) lf c1] w fun e w' => e = .returned (.bool true) ∧ Below w.heap.size w w' := by
  have Ho := hide ho
  have Hf := hide hf
  have Hok := hide hok
  have HC1 := hide (clone11_pos ⟨b, off, none⟩ lo c0 (by omega) O w (fun i hi => by rw [add_at]; exact ho i hi))
  have HB := hide (bytes16_true (some ⟨b, off, none⟩) (some ad1) lo lf c0 c1 st ev (by omega) w)
  have hsum' : 4 * (lo : Int) + (lf : Int) ≤ 1048576 := by omega
  have hmk := make4 lf (by omega)
  clear ho hf hok
  go_enter Try.func6, Try.ntmps6
  go_wp2_with fail
  refine (unhide HB).mono ?_
  rintro e w' ⟨rfl, hw⟩
  have hw := hw.symm
  subst hw
  go_wp2_with fail
  go_loop [9] (fun v => ∃ k : Nat, k ≤ lo ∧ v = .int .i64 (k : Int)) (fun v => lo - (intOf v).toNat)
  case atStart => exact ⟨0, Nat.zero_le _, rfl⟩
  case round =>
    obtain ⟨k, hk, rfl⟩ := hrel
    by_cases hlt : k < lo
    · have hc := unhide Ho k hlt
      obtain ⟨o1, o2⟩ := unhide Hok k hlt
      have hn : ¬ O k < 0 := by omega
      have hlt' : (k : Int) < (lo : Int) := by omega
      go_wp2_with fail
      go_round
      case rel => exact ⟨k + 1, by omega, by go_num⟩
      case measure => simp [intOf]; omega
    · have hlt' : ¬ (k : Int) < (lo : Int) := by omega
      clear hk hlt
      go_wp2_with fail
      refine (unhide HC1).mono ?_
      rintro e w1 ⟨rfl, hb1, hz1, hc1, _⟩
      have Hb1 := hide hb1
      have Hz1 := hide hz1
      have Hc1 := hide hc1
      clear hb1 hz1 hc1
      go_wp2_with fail
      refine (clone12_pos ad1 lf c1 (by omega) F w1 (fun i hi => ?_)).mono ?_
      · have := unhide Hf i hi
        rw [(unhide Hb1).cell (World.block_lt_of_cell? w _ this)]; exact this
      rintro e w2 ⟨rfl, hb2, hz2, hc2, hz⟩
      have e1 : ∀ i, i < lo → w2.cell? ⟨w.heap.size, i, none⟩ = some (.int .i32 (O i)) := fun i hi => by
        rw [hb2.cell (p := ⟨w.heap.size, i, none⟩) (by rw [unhide Hz1]; exact Nat.lt_succ_self _)]; exact unhide Hc1 i hi
      have HH : Hid (Held w w2 w.heap.size w1.heap.size lo lf O F) :=
        ⟨(unhide Hb1).trans (hb2.mono (by rw [unhide Hz1]; exact Nat.le_succ _)), Nat.le_refl _, by rw [unhide Hz1]; omega, by rw [hz2, unhide Hz1]; omega, by rw [hz2]; omega, by rw [unhide Hz1]; omega, e1, hc2, hz⟩
      have Hlt : Hid (w.heap.size < w1.heap.size) := by show _ < _; rw [unhide Hz1]; omega
      clear hb2 hz2 hc2 e1 hz Hf Ho HC1 HB Hc1 Hb1 Hz1
      go_wp2_with fail
      have HM := hide (Marks.start (unhide HH))
      obtain ⟨g3, hg3⟩ : ∃ g3, g3 = w2.heap.size := ⟨_, rfl⟩
      rw [← hg3] at HM ⊢
      have Hg3 := hide hg3
      clear hg3
      go_loopw [11, 12] (fun wt i wr => ∃ n : Nat, n ≤ lo ∧ i = .int .i64 (n : Int) ∧ wt = .int .i64 (Sc.dc (nat O) F n : Nat) ∧ Hid (Marks w wr w.heap.size w1.heap.size g3 lo lf O F n)) (fun _ i _ => lo - (intOf i).toNat)
      case atStart => exact ⟨0, Nat.zero_le _, rfl, rfl, unhide HM⟩
      case round =>
        obtain ⟨n, hn, rfl, rfl, HMr⟩ := hrel
        have hdc := Sc.dc_le (nat O) F n
        by_cases hlt : n < lo
        · have q1 := (unhide HMr).held.ord n hlt
          obtain ⟨o1, o2⟩ := unhide Hok n hlt
          have hx : (O n).toNat < lf := by omega
          have q2 := (unhide HMr).held.fre (O n).toNat hx
          have q3 := (unhide HMr).mrk (O n).toNat hx
          have q4 := (unhide HMr).frz (O n).toNat
          have hlt2 : (n : Int) < (lo : Int) := by omega
          cases hp : F (O n).toNat with
          | false =>
            rw [hp] at q2
            have hno : F (nat O n) = false ∨ Sc.seenIn (nat O) n (nat O n) = true := Or.inl hp
            have R1 := hide (Sc.dc_no hno)
            have R2 := hide ((unhide HMr).stay hno)
            clear hno hp q3 q4 hx
            go_wp2_with fail
            go_roundw
            case rel => exact ⟨n + 1, by omega, by go_num, by rw [unhide R1], unhide R2⟩
            case measure => simp [intOf]; omega
          | true =>
            rw [hp] at q2
            cases hs : Sc.seenIn (nat O) n (nat O n) with
            | true =>
              have e3 : Sc.mark (nat O) F n (O n).toNat = true := by show (F (O n).toNat && Sc.seenIn (nat O) n (nat O n)) = true; rw [hp, hs]; rfl
              rw [e3] at q3
              have hno : F (nat O n) = false ∨ Sc.seenIn (nat O) n (nat O n) = true := Or.inr hs
              have R1 := hide (Sc.dc_no hno)
              have R2 := hide ((unhide HMr).stay hno)
              clear hno hp hs e3 q4 hx
              go_wp2_with fail
              go_roundw
              case rel => exact ⟨n + 1, by omega, by go_num, by rw [unhide R1], unhide R2⟩
              case measure => simp [intOf]; omega
            | false =>
              have e3 : Sc.mark (nat O) F n (O n).toNat = false := by show (F (O n).toNat && Sc.seenIn (nat O) n (nat O n)) = false; rw [hp, hs]; rfl
              rw [e3] at q3
              have R1 := hide (Sc.dc_yes (n := n) (show F (nat O n) = true from hp) hs)
              have R2 := hide ((unhide HMr).set hp)
              clear hp hs e3 hx
              go_wp2_with fail
              go_roundw
              case rel => exact ⟨n + 1, by omega, by go_num, by rw [unhide R1]; go_num, unhide R2⟩
              case measure => simp [intOf]; omega
        · obtain rfl : n = lo := by omega
          have hlt2 : ¬ (n : Int) < (n : Int) := by omega
          have HHr := hide (unhide HMr).held
          clear hn hlt HM HMr HH
          go_wp2_with fail
          have Hx := hide (xor1_ne ev)
          generalize bits .xor .i64 ev 1 = xe at *
          have hW := Sc.dc_le (nat O) F n
          obtain ⟨Wt, hWt⟩ : ∃ Wt, Wt = Sc.dc (nat O) F n := ⟨_, rfl⟩
          rw [← hWt] at hW ⊢
          have HWt := hide hWt
          clear hWt hdc
          refine (zznew_any (some ⟨w.heap.size, 0, none⟩) n n st xe wr).mono ?_
          rintro e wk ⟨rfl, hR, hg, hz⟩
          have HT : Hid (Taken w wk w.heap.size w1.heap.size wr.heap.size n lf O F st xe ev 0 0 Wt) :=
            ⟨(unhide HHr).grown hg (fun r e => by cases e), hR, (unhide HHr).below.size, Nat.ne_of_gt (unhide HHr).l1, Nat.ne_of_gt (unhide HHr).l2, Or.inr ⟨unhide Hx, rfl⟩, Nat.zero_le _, fun j hj => absurd hj (by omega), by rw [unhide HWt]; omega⟩
          obtain ⟨k3, hk3⟩ : ∃ k3, k3 = wr.heap.size := ⟨_, rfl⟩
          rw [← hk3] at HT ⊢
          clear hk3 hR hg hz Hx HHr Hg3
          go_wp2_with fail
          go_loopw [15] (fun v wl => ∃ (t : Nat) (F' : Nat → Bool) (hd hev : Int) (s : Nat), v = .int .i64 (t : Int) ∧ Hid (Taken w wl w.heap.size w1.heap.size k3 n lf O F' hd hev ev s t Wt)) (fun v _ => n + 1 - (intOf v).toNat)
          case atStart => exact ⟨0, F, st, xe, 0, rfl, unhide HT⟩
          case round =>
            clear HT
            obtain ⟨t, F', hd, hev, s, rfl, HTk⟩ := hrel
            have htn : (t : Int) ≤ (n : Int) := by have := (unhide HTk).cnt; omega
            go_wp2_with fail
            refine ((unhide HTk).next (by omega) hlf (unhide Hok)).mono ?_
            rintro e wa ⟨rfl, hMa⟩
            have HMa := hide hMa
            clear hMa
            go_wp2_with fail
            refine (unhide HMa).new.mono ?_
            rintro e wb ⟨rfl, hMb, hRb, hq⟩
            have HMb := hide hMb
            have HRb := hide hRb
            have Hq := hide hq
            clear hMb hRb hq
            go_wp2_with fail
            refine ((unhide HMb).fresh (unhide HRb) (unhide Hq) (by omega) hlf (unhide Hok)).mono ?_
            rintro e wc ⟨rfl, hMc⟩
            have HMc := hide hMc
            clear hMc HMa HMb HRb Hq
            go_wp2_with fail
            refine (zzhead_any k3 _ _ wc (unhide HMc).rk.c4 (unhide HMc).rk.c5).mono ?_
            rintro e wd ⟨rfl, nn, rfl⟩
            have hxle := Sc.scan_le (P := freeAt O F') (n := n) (s := 0) (Nat.zero_le _)
            by_cases hx : Sc.scan (freeAt O F') n 0 = n
            · have hzero : Sc.dc (nat O) F' n = 0 := Sc.dc_none _ _ _ (fun j hj => Sc.scan_before (P := freeAt O F') (n := n) (s := 0) (Nat.zero_le _) (by rw [hx]; exact hj))
              have htW : t = Wt := by have := (unhide HTk).cnt; omega
              have HBl := hide (unhide HMc).held.below
              rw [hx]
              clear hx hxle hzero HMc HTk
              subst htW
              go_wp2_with fail
              go_ret
              exact ⟨rfl, below_drewN (unhide HBl) _⟩
            · have hxlt : Sc.scan (freeAt O F') n 0 < n := by omega
              have q1 := (unhide HMc).held.ord _ hxlt
              obtain ⟨o1, o2⟩ := unhide Hok _ hxlt
              have hox : nat O (Sc.scan (freeAt O F') n 0) < lf := by unfold nat; omega
              have q2 := (unhide HMc).held.fre _ hox
              have hfr : F' (nat O (Sc.scan (freeAt O F') n 0)) = true := Sc.scan_at hxlt
              rw [hfr] at q2
              have q3 := (unhide HMc).held.frz (nat O (Sc.scan (freeAt O F') n 0))
              have HNx := hide (((Mid.taken (t := t) (W := Wt) ⟨(unhide HMc).held.drew nn, (unhide HMc).rk.of_block rfl⟩ (unhide Hok) hxlt (unhide HTk).kn (unhide HTk).k1 (unhide HTk).k2 (unhide HTk).cnt)))
              unfold nat at q2 q3 hox HNx
              have hne : ((Sc.scan (freeAt O F') n 0 : Int) == (n : Int)) = false := by simp; omega
              have hxi : (Sc.scan (freeAt O F') n 0 : Int) < (n : Int) := by omega
              clear hx hfr hxle
              go_wp2_with fail
              go_roundw
              case rel => exact ⟨t + 1, _, _, ev, _, by go_num, unhide HNx⟩
              case measure => simp [intOf]; omega
end Go.Proofs.Qxb6605639a.Nx
