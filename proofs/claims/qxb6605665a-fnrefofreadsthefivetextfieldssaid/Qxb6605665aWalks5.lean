/-
  THE WALKS of the model's check.
-/
import Derived.Test.Qxb6605665aWalks4
namespace Go.Proofs.Qxb6605665a
open Go.RowKit Mp

theorem Pairs.drew {w : World} {a : Option Addr} {n : Nat} {K V : Nat → ByteArray} (h : Pairs w a n K V) (q : Nat) : Pairs (w.drewN q) a n K V := h.below (fun _ _ _ _ => rfl)

/-- What is checked at one key. -/
def want (K1 V1 K2 V2 : Nat → ByteArray) (n1 n2 : Nat) (f key : ByteArray) : Option ByteArray := if key = f then last K2 V2 n2 f else last K1 V1 n1 key

set_option maxHeartbeats 1000000 in
theorem takeHas_any (g b : Nat) (S : List (ByteArray × Value)) (a1 : Option Addr) (n1 c1 : Nat) (K1 V1 : Nat → ByteArray) (a2 : Option Addr) (n2 c2 : Nat) (K2 V2 : Nat → ByteArray) (f key : ByteArray) (w : World)
    (hc : w.cell? ⟨g, 0, none⟩ = some (.map (some b))) (hM : MapIs w b S) (h1 : Pairs w a1 n1 K1 V1) (h2 : Pairs w a2 n2 K2 V2) (hn1 : n1 ≤ 1048576) (hn2 : n2 ≤ 1048576) (hS : lk S key = (want K1 V1 K2 V2 n1 n2 f key).map strv) :
    Calls Try.prog 35 #[.pointer (some ⟨g, 0, none⟩), .slice a1 n1 c1, .slice a2 n2 c2, .string f, .string key] w fun e w' => e = .returned (.bool true) ∧ w' = w := by
  have HG := hide (zzget_any g b S key _ w hc hM hS)
  by_cases he : key = f
  · have HL := hide (last_any a2 n2 c2 K2 V2 f w h2 hn2)
    have ew : want K1 V1 K2 V2 n1 n2 f key = last K2 V2 n2 f := by unfold want; rw [if_pos he]
    rw [ew] at HG
    have e1 := eq_true he
    clear hM h1 h2 hS ew he
    generalize last K2 V2 n2 f = r at *
    go_enter Try.func35, Try.ntmps35
    go_wp2_with fail
    refine (unhide HL).mono ?_
    rintro e w' ⟨rfl, hw⟩
    have hw := hw.symm
    subst hw
    go_wp2_with fail
    refine (unhide HG).mono ?_
    rintro e w' ⟨rfl, hw⟩
    have hw := hw.symm
    subst hw
    have e2 := eq_true (rfl : r.getD ⟨#[]⟩ = r.getD ⟨#[]⟩)
    go_wp2_with fail
    go_ret
    exact ⟨rfl, rfl⟩
  · have HL := hide (last_any a1 n1 c1 K1 V1 key w h1 hn1)
    have ew : want K1 V1 K2 V2 n1 n2 f key = last K1 V1 n1 key := by unfold want; rw [if_neg he]
    rw [ew] at HG
    have e1 := eq_false he
    clear hM h1 h2 hS ew he
    generalize last K1 V1 n1 key = r at *
    go_enter Try.func35, Try.ntmps35
    go_wp2_with fail
    refine (unhide HL).mono ?_
    rintro e w' ⟨rfl, hw⟩
    have hw := hw.symm
    subst hw
    go_wp2_with fail
    refine (unhide HG).mono ?_
    rintro e w' ⟨rfl, hw⟩
    have hw := hw.symm
    subst hw
    have e2 := eq_true (rfl : r.getD ⟨#[]⟩ = r.getD ⟨#[]⟩)
    go_wp2_with fail
    go_ret
    exact ⟨rfl, rfl⟩

set_option maxHeartbeats 2000000 in
theorem modelHolds_any (g b : Nat) (S : List (ByteArray × Value)) (a1 : Option Addr) (n1 c1 : Nat) (K1 V1 : Nat → ByteArray) (a2 : Option Addr) (n2 c2 : Nat) (K2 V2 : Nat → ByteArray) (f : ByteArray) (w : World)
    (hc : w.cell? ⟨g, 0, none⟩ = some (.map (some b))) (hM : MapIs w b S) (h1 : Pairs w a1 n1 K1 V1) (h2 : Pairs w a2 n2 K2 V2) (hn1 : n1 ≤ 1048576) (hn2 : n2 ≤ 1048576) (hS : ∀ key, lk S key = (want K1 V1 K2 V2 n1 n2 f key).map strv)
    (hlen : S.length = dcount K1 (keep f true) n1 n1 + if (last K2 V2 n2 f).isSome then 1 else 0) :
    Calls Try.prog 23 #[.pointer (some ⟨g, 0, none⟩), .slice a1 n1 c1, .slice a2 n2 c2, .string f] w fun e w' => e = .returned (.bool true) ∧ ∃ q, w' = w.drewN q := by
  have HH := fun key => hide (takeHas_any g b S a1 n1 c1 K1 V1 a2 n2 c2 K2 V2 f key w hc hM h1 h2 hn1 hn2 (hS key))
  have HD := hide (distinct_any a1 n1 c1 K1 V1 f true w h1 hn1)
  have HL := fun q => hide (last_any a2 n2 c2 K2 V2 f (w.drewN q) (h2.drew q) hn2)
  have HN := fun q => hide (zzlen_any g b S (w.drewN q) hc (hM.of_block rfl))
  have HP1 := hide h1
  have HP2 := hide h2
  have hdl := dcount_le K1 (keep f true) n1 n1
  have Hlen := hide hlen
  clear hM h1 h2 hS hlen
  generalize dcount K1 (keep f true) n1 n1 = D at *
  generalize last K2 V2 n2 f = r at *
  go_enter Try.func23, Try.ntmps23
  go_wp2_with fail
  go_loop [9] (fun i => ∃ k : Nat, k ≤ n1 ∧ i = .int .i64 (k : Int)) (fun i => n1 - (intOf i).toNat)
  case atStart => exact ⟨0, Nat.zero_le _, rfl⟩
  case round =>
    obtain ⟨k, hk, rfl⟩ := hrel
    by_cases hlt : k < n1
    · rcases unhide HP1 with h0 | ⟨bb, off, e, hcc⟩
      · omega
      · subst e
        obtain ⟨q1, q2⟩ := hcc k hlt
        have hlt' : (k : Int) < (n1 : Int) := by omega
        have HX := HH (K1 k)
        clear hcc HH HP1 HP2 HD HL HN q2
        go_wp2_with fail
        refine (unhide HX).mono ?_
        rintro e w' ⟨rfl, hw⟩
        have hw := hw.symm
        subst hw
        go_wp2_with fail
        go_round
        case rel => exact ⟨k + 1, by omega, by go_num⟩
        case measure => simp [intOf]; omega
    · have hlt' : ¬ (k : Int) < (n1 : Int) := by omega
      clear hlt hk
      go_wp2_with fail
      go_loop [10] (fun i => ∃ k : Nat, k ≤ n2 ∧ i = .int .i64 (k : Int)) (fun i => n2 - (intOf i).toNat)
      case atStart => exact ⟨0, Nat.zero_le _, rfl⟩
      case round =>
        obtain ⟨j, hj, rfl⟩ := hrel
        by_cases hlt : j < n2
        · rcases unhide HP2 with h0 | ⟨bb, off, e, hcc⟩
          · omega
          · subst e
            obtain ⟨q1, q2⟩ := hcc j hlt
            have hlt' : (j : Int) < (n2 : Int) := by omega
            have HX := HH (K2 j)
            clear hcc HH HP1 HP2 HD HL HN q2
            go_wp2_with fail
            refine (unhide HX).mono ?_
            rintro e w' ⟨rfl, hw⟩
            have hw := hw.symm
            subst hw
            go_wp2_with fail
            go_round
            case rel => exact ⟨j + 1, by omega, by go_num⟩
            case measure => simp [intOf]; omega
        · have hlt' : ¬ (j : Int) < (n2 : Int) := by omega
          have HX := HH f
          clear hlt hj HH HP1 HP2
          go_wp2_with fail
          refine (unhide HX).mono ?_
          rintro e w' ⟨rfl, hw⟩
          have hw := hw.symm
          subst hw
          go_wp2_with fail
          refine (unhide HD).mono ?_
          rintro e w' ⟨rfl, q, rfl⟩
          have HLq := HL q
          have HNq := HN q
          clear HL HN
          go_wp2_with fail
          refine (unhide HLq).mono ?_
          rintro e w' ⟨rfl, hw⟩
          have hw := hw.symm
          subst hw
          cases r with
          | none =>
            have hl2 : ((S.length : Int) == (D : Int)) = true := by have := unhide Hlen; simp at this; simp; omega
            go_wp2_with fail
            refine (unhide HNq).mono ?_
            rintro e w' ⟨rfl, hw⟩
            have hw := hw.symm
            subst hw
            go_wp2_with fail
            go_ret
            exact ⟨rfl, q, rfl⟩
          | some s =>
            have hl2 : ((S.length : Int) == (D : Int) + 1) = true := by have := unhide Hlen; simp at this; simp; omega
            go_wp2_with fail
            refine (unhide HNq).mono ?_
            rintro e w' ⟨rfl, hw⟩
            have hw := hw.symm
            subst hw
            go_wp2_with fail
            go_ret
            exact ⟨rfl, q, rfl⟩
end Go.Proofs.Qxb6605665a
