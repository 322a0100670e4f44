/-
  THE WALK of the bound on all lengths of the law FnRefOfReadsTheFiveTextFields.
-/
import Derived.Test.Qxb6605665aLists
namespace Go.Proofs.Qxb6605665a
open Go.RowKit Mp

/-! ### The bound on all lengths -/
set_option maxRecDepth 100000 in
set_option maxHeartbeats 8000000 in
theorem bytes9_any (a1 : Option Addr) (n1 c1 : Nat) (K1 V1 : Nat → ByteArray) (a2 : Option Addr) (n2 c2 : Nat) (T2 : Nat → ByteArray) (a3 : Option Addr) (n3 c3 : Nat) (K3 V3 : Nat → ByteArray) (a4 : Option Addr) (n4 c4 : Nat) (T4 : Nat → ByteArray) (wm : Bool) (w : World)
    (h1 : Pairs w a1 n1 K1 V1) (h2 : Strs w a2 n2 T2) (h3 : Pairs w a3 n3 K3 V3) (h4 : Strs w a4 n4 T4) :
    Calls Try.prog 9 #[.slice a1 n1 c1, .slice a2 n2 c2, .slice a3 n3 c3, .slice a4 n4 c4, .bool wm] w fun e w' => AnyBool w e w' := by
  have HP1 := hide h1
  have HT2 := hide h2
  have HP3 := hide h3
  have HT4 := hide h4
  clear h1 h2 h3 h4
  by_cases b1 : (1048576 : Int) < (n1 : Int)
  · go_enter Try.func9, Try.ntmps9
    go_wp2_with fail
    go_ret
    exact ⟨_, rfl, rfl⟩
  go_enter Try.func9, Try.ntmps9
  go_wp2_with fail
  go_loop [11, 12] (fun v i => ∃ (k : Nat) (z : Int), k ≤ n1 ∧ 0 ≤ z ∧ z ≤ 1048576 ∧ v = .int .i64 z ∧ i = .int .i64 (k : Int)) (fun _ i => n1 - (intOf i).toNat)
  case atStart => exact ⟨0, _, Nat.zero_le _, by omega, by omega, rfl, rfl⟩
  case round =>
    obtain ⟨k1, z, hk, z0, z1, rfl, rfl⟩ := hrel
    by_cases hlt : k1 < n1
    · rcases unhide HP1 with h0 | ⟨bb, off, e, hcc⟩
      · omega
      · subst e
        obtain ⟨q1, q2⟩ := hcc k1 hlt
        have hlt' : (k1 : Int) < (n1 : Int) := by omega
        clear hcc
        go_wp2_with fail
        go_loop [11, 13] (fun v i => ∃ (j : Nat) (z : Int), j ≤ 2 ∧ 0 ≤ z ∧ z ≤ 1048576 ∧ v = .int .i64 z ∧ i = .int .i64 (j : Int)) (fun _ i => 2 - (intOf i).toNat)
        case atStart => exact ⟨0, _, Nat.zero_le _, z0, z1, rfl, rfl⟩
        case round =>
          obtain ⟨j, y, hj, y0, y1, rfl, rfl⟩ := hrel
          obtain rfl | rfl | rfl : j = 0 ∨ j = 1 ∨ j = 2 := by omega
          · by_cases l1 : (1048576 : Int) < ((K1 k1).size : Int)
            · go_wp2_with fail
              go_ret
              exact ⟨_, rfl, rfl⟩
            · have m1 : (0 : Int) ≤ ((K1 k1).size : Int) := by omega
              by_cases l2 : (1048576 : Int) < y + ((K1 k1).size : Int)
              · go_wp2_with fail
                go_ret
                exact ⟨_, rfl, rfl⟩
              · go_wp2_with fail
                go_round
                case rel => exact ⟨1, y + ((K1 k1).size : Int), by omega, by omega, by omega, rfl, by go_num⟩
                case measure => simp [intOf]
          · by_cases l1 : (1048576 : Int) < ((V1 k1).size : Int)
            · go_wp2_with fail
              go_ret
              exact ⟨_, rfl, rfl⟩
            · have m1 : (0 : Int) ≤ ((V1 k1).size : Int) := by omega
              by_cases l2 : (1048576 : Int) < y + ((V1 k1).size : Int)
              · go_wp2_with fail
                go_ret
                exact ⟨_, rfl, rfl⟩
              · go_wp2_with fail
                go_round
                case rel => exact ⟨2, y + ((V1 k1).size : Int), by omega, by omega, by omega, rfl, by go_num⟩
                case measure => simp [intOf]
          · go_wp2_with fail
            go_round
            case rel => exact ⟨k1 + 1, y, by omega, by omega, by omega, rfl, by go_num⟩
            case measure => simp [intOf]; omega
    · have hlt' : ¬ (k1 : Int) < (n1 : Int) := by omega
      clear hlt hk
      by_cases b2 : (1048576 : Int) < (n2 : Int)
      · go_wp2_with fail
        go_ret
        exact ⟨_, rfl, rfl⟩
      by_cases b3 : (1048576 : Int) < z + (n2 : Int)
      · go_wp2_with fail
        go_ret
        exact ⟨_, rfl, rfl⟩
      go_wp2_with fail
      go_loop [11, 14] (fun v i => ∃ (k : Nat) (z : Int), k ≤ n2 ∧ 0 ≤ z ∧ z ≤ 1048576 ∧ v = .int .i64 z ∧ i = .int .i64 (k : Int)) (fun _ i => n2 - (intOf i).toNat)
      case atStart => exact ⟨0, _, Nat.zero_le _, by omega, by omega, rfl, rfl⟩
      case round =>
        obtain ⟨k2, z, hk, z0, z1, rfl, rfl⟩ := hrel
        by_cases hlt : k2 < n2
        · rcases unhide HT2 with h0 | ⟨bb, off, e, hcc⟩
          · omega
          · subst e
            have q1 := hcc k2 hlt
            have hlt' : (k2 : Int) < (n2 : Int) := by omega
            clear hcc
            by_cases l1 : (1048576 : Int) < ((T2 k2).size : Int)
            · go_wp2_with fail
              go_ret
              exact ⟨_, rfl, rfl⟩
            · have m1 : (0 : Int) ≤ ((T2 k2).size : Int) := by omega
              by_cases l2 : (1048576 : Int) < z + ((T2 k2).size : Int)
              · go_wp2_with fail
                go_ret
                exact ⟨_, rfl, rfl⟩
              · go_wp2_with fail
                go_round
                case rel => exact ⟨k2 + 1, z + ((T2 k2).size : Int), by omega, by omega, by omega, rfl, by go_num⟩
                case measure => simp [intOf]; omega
        · have hlt' : ¬ (k2 : Int) < (n2 : Int) := by omega
          clear hlt hk
          by_cases b2 : (1048576 : Int) < (n3 : Int)
          · go_wp2_with fail
            go_ret
            exact ⟨_, rfl, rfl⟩
          by_cases b3 : (1048576 : Int) < z + (n3 : Int)
          · go_wp2_with fail
            go_ret
            exact ⟨_, rfl, rfl⟩
          go_wp2_with fail
          go_loop [11, 15] (fun v i => ∃ (k : Nat) (z : Int), k ≤ n3 ∧ 0 ≤ z ∧ z ≤ 1048576 ∧ v = .int .i64 z ∧ i = .int .i64 (k : Int)) (fun _ i => n3 - (intOf i).toNat)
          case atStart => exact ⟨0, _, Nat.zero_le _, by omega, by omega, rfl, rfl⟩
          case round =>
            obtain ⟨k3, z, hk, z0, z1, rfl, rfl⟩ := hrel
            by_cases hlt : k3 < n3
            · rcases unhide HP3 with h0 | ⟨bb, off, e, hcc⟩
              · omega
              · subst e
                obtain ⟨q1, q2⟩ := hcc k3 hlt
                have hlt' : (k3 : Int) < (n3 : Int) := by omega
                clear hcc
                go_wp2_with fail
                go_loop [11, 16] (fun v i => ∃ (j : Nat) (z : Int), j ≤ 2 ∧ 0 ≤ z ∧ z ≤ 1048576 ∧ v = .int .i64 z ∧ i = .int .i64 (j : Int)) (fun _ i => 2 - (intOf i).toNat)
                case atStart => exact ⟨0, _, Nat.zero_le _, z0, z1, rfl, rfl⟩
                case round =>
                  obtain ⟨j, y, hj, y0, y1, rfl, rfl⟩ := hrel
                  obtain rfl | rfl | rfl : j = 0 ∨ j = 1 ∨ j = 2 := by omega
                  · by_cases l1 : (1048576 : Int) < ((K3 k3).size : Int)
                    · go_wp2_with fail
                      go_ret
                      exact ⟨_, rfl, rfl⟩
                    · have m1 : (0 : Int) ≤ ((K3 k3).size : Int) := by omega
                      by_cases l2 : (1048576 : Int) < y + ((K3 k3).size : Int)
                      · go_wp2_with fail
                        go_ret
                        exact ⟨_, rfl, rfl⟩
                      · go_wp2_with fail
                        go_round
                        case rel => exact ⟨1, y + ((K3 k3).size : Int), by omega, by omega, by omega, rfl, by go_num⟩
                        case measure => simp [intOf]
                  · by_cases l1 : (1048576 : Int) < ((V3 k3).size : Int)
                    · go_wp2_with fail
                      go_ret
                      exact ⟨_, rfl, rfl⟩
                    · have m1 : (0 : Int) ≤ ((V3 k3).size : Int) := by omega
                      by_cases l2 : (1048576 : Int) < y + ((V3 k3).size : Int)
                      · go_wp2_with fail
                        go_ret
                        exact ⟨_, rfl, rfl⟩
                      · go_wp2_with fail
                        go_round
                        case rel => exact ⟨2, y + ((V3 k3).size : Int), by omega, by omega, by omega, rfl, by go_num⟩
                        case measure => simp [intOf]
                  · go_wp2_with fail
                    go_round
                    case rel => exact ⟨k3 + 1, y, by omega, by omega, by omega, rfl, by go_num⟩
                    case measure => simp [intOf]; omega
            · have hlt' : ¬ (k3 : Int) < (n3 : Int) := by omega
              clear hlt hk
              by_cases b2 : (1048576 : Int) < (n4 : Int)
              · go_wp2_with fail
                go_ret
                exact ⟨_, rfl, rfl⟩
              by_cases b3 : (1048576 : Int) < z + (n4 : Int)
              · go_wp2_with fail
                go_ret
                exact ⟨_, rfl, rfl⟩
              go_wp2_with fail
              go_loop [11, 17] (fun v i => ∃ (k : Nat) (z : Int), k ≤ n4 ∧ 0 ≤ z ∧ z ≤ 1048576 ∧ v = .int .i64 z ∧ i = .int .i64 (k : Int)) (fun _ i => n4 - (intOf i).toNat)
              case atStart => exact ⟨0, _, Nat.zero_le _, by omega, by omega, rfl, rfl⟩
              case round =>
                obtain ⟨k4, z, hk, z0, z1, rfl, rfl⟩ := hrel
                by_cases hlt : k4 < n4
                · rcases unhide HT4 with h0 | ⟨bb, off, e, hcc⟩
                  · omega
                  · subst e
                    have q1 := hcc k4 hlt
                    have hlt' : (k4 : Int) < (n4 : Int) := by omega
                    clear hcc
                    by_cases l1 : (1048576 : Int) < ((T4 k4).size : Int)
                    · go_wp2_with fail
                      go_ret
                      exact ⟨_, rfl, rfl⟩
                    · have m1 : (0 : Int) ≤ ((T4 k4).size : Int) := by omega
                      by_cases l2 : (1048576 : Int) < z + ((T4 k4).size : Int)
                      · go_wp2_with fail
                        go_ret
                        exact ⟨_, rfl, rfl⟩
                      · go_wp2_with fail
                        go_round
                        case rel => exact ⟨k4 + 1, z + ((T4 k4).size : Int), by omega, by omega, by omega, rfl, by go_num⟩
                        case measure => simp [intOf]; omega
                · have hlt' : ¬ (k4 : Int) < (n4 : Int) := by omega
                  clear hlt hk
                  go_wp2_with fail
                  go_ret
                  exact ⟨_, rfl, rfl⟩
end Go.Proofs.Qxb6605665a
