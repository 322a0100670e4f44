/-
  THE WALKS of the given bounds on the lengths: they answer a bool and leave the world as it was; which bool does not matter to the laws.
-/
import Derived.Test.Qxb6605665aWalks5
namespace Go.Proofs.Qxb6605665a
open Go.RowKit Mp

/-- Some bool; the world as it was. -/
def AnyBool (w : World) (e : Ending) (w' : World) : Prop := ∃ b, e = .returned (.bool b) ∧ w' = w

set_option maxHeartbeats 4000000 in
theorem bytes21_any (a1 : Option Addr) (n1 c1 : Nat) (K1 V1 : Nat → ByteArray) (a2 : Option Addr) (n2 c2 : Nat) (K2 V2 : Nat → ByteArray) (f : ByteArray) (w : World) (h1 : Pairs w a1 n1 K1 V1) (h2 : Pairs w a2 n2 K2 V2) :
    Calls Try.prog 21 #[.slice a1 n1 c1, .slice a2 n2 c2, .string f] w fun e w' => AnyBool w e w' := by
  have HP1 := hide h1
  have HP2 := hide h2
  clear h1 h2
  by_cases b1 : (1048576 : Int) < (n1 : Int)
  · go_enter Try.func21, Try.ntmps21
    go_wp2_with fail
    go_ret
    exact ⟨_, rfl, rfl⟩
  go_enter Try.func21, Try.ntmps21
  go_wp2_with fail
  go_loop [7, 8] (fun v i => ∃ (k : Nat) (z : Int), k ≤ n1 ∧ 0 ≤ z ∧ z ≤ 1048576 ∧ v = .int .i64 z ∧ i = .int .i64 (k : Int)) (fun _ i => n1 - (intOf i).toNat)
  case atStart => exact ⟨0, _, Nat.zero_le _, by omega, by omega, rfl, rfl⟩
  case round =>
    obtain ⟨k1, z, hk, z0, z1, rfl, rfl⟩ := hrel
    by_cases hlt : k1 < n1
    · rcases unhide HP1 with h0 | ⟨bb, off, e, hcc⟩
      · omega
      · subst e
        obtain ⟨q1, q2⟩ := hcc k1 hlt
        have hlt' : (k1 : Int) < (n1 : Int) := by omega
        clear hcc
        go_wp2_with fail
        go_loop [7, 9] (fun v i => ∃ (j : Nat) (z : Int), j ≤ 2 ∧ 0 ≤ z ∧ z ≤ 1048576 ∧ v = .int .i64 z ∧ i = .int .i64 (j : Int)) (fun _ i => 2 - (intOf i).toNat)
        case atStart => exact ⟨0, _, Nat.zero_le _, z0, z1, rfl, rfl⟩
        case round =>
          obtain ⟨j, y, hj, y0, y1, rfl, rfl⟩ := hrel
          obtain rfl | rfl | rfl : j = 0 ∨ j = 1 ∨ j = 2 := by omega
          · by_cases l1 : (1048576 : Int) < ((K1 k1).size : Int)
            · go_wp2_with fail
              go_ret
              exact ⟨_, rfl, rfl⟩
            · have m1 : (0 : Int) ≤ ((K1 k1).size : Int) := by omega
              by_cases l2 : (1048576 : Int) < y + ((K1 k1).size : Int)
              · go_wp2_with fail
                go_ret
                exact ⟨_, rfl, rfl⟩
              · go_wp2_with fail
                go_round
                case rel => exact ⟨1, y + ((K1 k1).size : Int), by omega, by omega, by omega, rfl, by go_num⟩
                case measure => simp [intOf]
          · by_cases l1 : (1048576 : Int) < ((V1 k1).size : Int)
            · go_wp2_with fail
              go_ret
              exact ⟨_, rfl, rfl⟩
            · have m1 : (0 : Int) ≤ ((V1 k1).size : Int) := by omega
              by_cases l2 : (1048576 : Int) < y + ((V1 k1).size : Int)
              · go_wp2_with fail
                go_ret
                exact ⟨_, rfl, rfl⟩
              · go_wp2_with fail
                go_round
                case rel => exact ⟨2, y + ((V1 k1).size : Int), by omega, by omega, by omega, rfl, by go_num⟩
                case measure => simp [intOf]
          · go_wp2_with fail
            go_round
            case rel => exact ⟨k1 + 1, y, by omega, by omega, by omega, rfl, by go_num⟩
            case measure => simp [intOf]; omega
    · have hlt' : ¬ (k1 : Int) < (n1 : Int) := by omega
      clear hlt hk
      by_cases b2 : (1048576 : Int) < (n2 : Int)
      · go_wp2_with fail
        go_ret
        exact ⟨_, rfl, rfl⟩
      by_cases b3 : (1048576 : Int) < z + (n2 : Int)
      · go_wp2_with fail
        go_ret
        exact ⟨_, rfl, rfl⟩
      go_wp2_with fail
      go_loop [7, 10] (fun v i => ∃ (k : Nat) (z : Int), k ≤ n2 ∧ 0 ≤ z ∧ z ≤ 1048576 ∧ v = .int .i64 z ∧ i = .int .i64 (k : Int)) (fun _ i => n2 - (intOf i).toNat)
      case atStart => exact ⟨0, _, Nat.zero_le _, by omega, by omega, rfl, rfl⟩
      case round =>
        obtain ⟨k2, z, hk, z0, z1, rfl, rfl⟩ := hrel
        by_cases hlt : k2 < n2
        · rcases unhide HP2 with h0 | ⟨bb, off, e, hcc⟩
          · omega
          · subst e
            obtain ⟨q1, q2⟩ := hcc k2 hlt
            have hlt' : (k2 : Int) < (n2 : Int) := by omega
            clear hcc
            go_wp2_with fail
            go_loop [7, 11] (fun v i => ∃ (j : Nat) (z : Int), j ≤ 2 ∧ 0 ≤ z ∧ z ≤ 1048576 ∧ v = .int .i64 z ∧ i = .int .i64 (j : Int)) (fun _ i => 2 - (intOf i).toNat)
            case atStart => exact ⟨0, _, Nat.zero_le _, z0, z1, rfl, rfl⟩
            case round =>
              obtain ⟨j, y, hj, y0, y1, rfl, rfl⟩ := hrel
              obtain rfl | rfl | rfl : j = 0 ∨ j = 1 ∨ j = 2 := by omega
              · by_cases l1 : (1048576 : Int) < ((K2 k2).size : Int)
                · go_wp2_with fail
                  go_ret
                  exact ⟨_, rfl, rfl⟩
                · have m1 : (0 : Int) ≤ ((K2 k2).size : Int) := by omega
                  by_cases l2 : (1048576 : Int) < y + ((K2 k2).size : Int)
                  · go_wp2_with fail
                    go_ret
                    exact ⟨_, rfl, rfl⟩
                  · go_wp2_with fail
                    go_round
                    case rel => exact ⟨1, y + ((K2 k2).size : Int), by omega, by omega, by omega, rfl, by go_num⟩
                    case measure => simp [intOf]
              · by_cases l1 : (1048576 : Int) < ((V2 k2).size : Int)
                · go_wp2_with fail
                  go_ret
                  exact ⟨_, rfl, rfl⟩
                · have m1 : (0 : Int) ≤ ((V2 k2).size : Int) := by omega
                  by_cases l2 : (1048576 : Int) < y + ((V2 k2).size : Int)
                  · go_wp2_with fail
                    go_ret
                    exact ⟨_, rfl, rfl⟩
                  · go_wp2_with fail
                    go_round
                    case rel => exact ⟨2, y + ((V2 k2).size : Int), by omega, by omega, by omega, rfl, by go_num⟩
                    case measure => simp [intOf]
              · go_wp2_with fail
                go_round
                case rel => exact ⟨k2 + 1, y, by omega, by omega, by omega, rfl, by go_num⟩
                case measure => simp [intOf]; omega
        · have hlt' : ¬ (k2 : Int) < (n2 : Int) := by omega
          clear hlt hk
          by_cases l1 : (1048576 : Int) < (f.size : Int)
          · go_wp2_with fail
            go_ret
            exact ⟨_, rfl, rfl⟩
          · have m1 : (0 : Int) ≤ (f.size : Int) := by omega
            by_cases l2 : (1048576 : Int) < z + (f.size : Int)
            · go_wp2_with fail
              go_ret
              exact ⟨_, rfl, rfl⟩
            · go_wp2_with fail
              go_ret
              exact ⟨_, rfl, rfl⟩

set_option maxHeartbeats 4000000 in
theorem bytes28_any (a1 : Option Addr) (n1 c1 : Nat) (K1 V1 : Nat → ByteArray) (a2 : Option Addr) (n2 c2 : Nat) (K2 V2 : Nat → ByteArray) (f : ByteArray) (w : World) (h1 : Pairs w a1 n1 K1 V1) (h2 : Pairs w a2 n2 K2 V2) :
    Calls Try.prog 28 #[.slice a1 n1 c1, .slice a2 n2 c2, .string f] w fun e w' => AnyBool w e w' := by
  have HP1 := hide h1
  have HP2 := hide h2
  clear h1 h2
  by_cases b1 : (1048576 : Int) < (n1 : Int)
  · go_enter Try.func28, Try.ntmps28
    go_wp2_with fail
    go_ret
    exact ⟨_, rfl, rfl⟩
  go_enter Try.func28, Try.ntmps28
  go_wp2_with fail
  go_loop [7, 8] (fun v i => ∃ (k : Nat) (z : Int), k ≤ n1 ∧ 0 ≤ z ∧ z ≤ 1048576 ∧ v = .int .i64 z ∧ i = .int .i64 (k : Int)) (fun _ i => n1 - (intOf i).toNat)
  case atStart => exact ⟨0, _, Nat.zero_le _, by omega, by omega, rfl, rfl⟩
  case round =>
    obtain ⟨k1, z, hk, z0, z1, rfl, rfl⟩ := hrel
    by_cases hlt : k1 < n1
    · rcases unhide HP1 with h0 | ⟨bb, off, e, hcc⟩
      · omega
      · subst e
        obtain ⟨q1, q2⟩ := hcc k1 hlt
        have hlt' : (k1 : Int) < (n1 : Int) := by omega
        clear hcc
        go_wp2_with fail
        go_loop [7, 9] (fun v i => ∃ (j : Nat) (z : Int), j ≤ 2 ∧ 0 ≤ z ∧ z ≤ 1048576 ∧ v = .int .i64 z ∧ i = .int .i64 (j : Int)) (fun _ i => 2 - (intOf i).toNat)
        case atStart => exact ⟨0, _, Nat.zero_le _, z0, z1, rfl, rfl⟩
        case round =>
          obtain ⟨j, y, hj, y0, y1, rfl, rfl⟩ := hrel
          obtain rfl | rfl | rfl : j = 0 ∨ j = 1 ∨ j = 2 := by omega
          · by_cases l1 : (1048576 : Int) < ((K1 k1).size : Int)
            · go_wp2_with fail
              go_ret
              exact ⟨_, rfl, rfl⟩
            · have m1 : (0 : Int) ≤ ((K1 k1).size : Int) := by omega
              by_cases l2 : (1048576 : Int) < y + ((K1 k1).size : Int)
              · go_wp2_with fail
                go_ret
                exact ⟨_, rfl, rfl⟩
              · go_wp2_with fail
                go_round
                case rel => exact ⟨1, y + ((K1 k1).size : Int), by omega, by omega, by omega, rfl, by go_num⟩
                case measure => simp [intOf]
          · by_cases l1 : (1048576 : Int) < ((V1 k1).size : Int)
            · go_wp2_with fail
              go_ret
              exact ⟨_, rfl, rfl⟩
            · have m1 : (0 : Int) ≤ ((V1 k1).size : Int) := by omega
              by_cases l2 : (1048576 : Int) < y + ((V1 k1).size : Int)
              · go_wp2_with fail
                go_ret
                exact ⟨_, rfl, rfl⟩
              · go_wp2_with fail
                go_round
                case rel => exact ⟨2, y + ((V1 k1).size : Int), by omega, by omega, by omega, rfl, by go_num⟩
                case measure => simp [intOf]
          · go_wp2_with fail
            go_round
            case rel => exact ⟨k1 + 1, y, by omega, by omega, by omega, rfl, by go_num⟩
            case measure => simp [intOf]; omega
    · have hlt' : ¬ (k1 : Int) < (n1 : Int) := by omega
      clear hlt hk
      by_cases b2 : (1048576 : Int) < (n2 : Int)
      · go_wp2_with fail
        go_ret
        exact ⟨_, rfl, rfl⟩
      by_cases b3 : (1048576 : Int) < z + (n2 : Int)
      · go_wp2_with fail
        go_ret
        exact ⟨_, rfl, rfl⟩
      go_wp2_with fail
      go_loop [7, 10] (fun v i => ∃ (k : Nat) (z : Int), k ≤ n2 ∧ 0 ≤ z ∧ z ≤ 1048576 ∧ v = .int .i64 z ∧ i = .int .i64 (k : Int)) (fun _ i => n2 - (intOf i).toNat)
      case atStart => exact ⟨0, _, Nat.zero_le _, by omega, by omega, rfl, rfl⟩
      case round =>
        obtain ⟨k2, z, hk, z0, z1, rfl, rfl⟩ := hrel
        by_cases hlt : k2 < n2
        · rcases unhide HP2 with h0 | ⟨bb, off, e, hcc⟩
          · omega
          · subst e
            obtain ⟨q1, q2⟩ := hcc k2 hlt
            have hlt' : (k2 : Int) < (n2 : Int) := by omega
            clear hcc
            go_wp2_with fail
            go_loop [7, 11] (fun v i => ∃ (j : Nat) (z : Int), j ≤ 2 ∧ 0 ≤ z ∧ z ≤ 1048576 ∧ v = .int .i64 z ∧ i = .int .i64 (j : Int)) (fun _ i => 2 - (intOf i).toNat)
            case atStart => exact ⟨0, _, Nat.zero_le _, z0, z1, rfl, rfl⟩
            case round =>
              obtain ⟨j, y, hj, y0, y1, rfl, rfl⟩ := hrel
              obtain rfl | rfl | rfl : j = 0 ∨ j = 1 ∨ j = 2 := by omega
              · by_cases l1 : (1048576 : Int) < ((K2 k2).size : Int)
                · go_wp2_with fail
                  go_ret
                  exact ⟨_, rfl, rfl⟩
                · have m1 : (0 : Int) ≤ ((K2 k2).size : Int) := by omega
                  by_cases l2 : (1048576 : Int) < y + ((K2 k2).size : Int)
                  · go_wp2_with fail
                    go_ret
                    exact ⟨_, rfl, rfl⟩
                  · go_wp2_with fail
                    go_round
                    case rel => exact ⟨1, y + ((K2 k2).size : Int), by omega, by omega, by omega, rfl, by go_num⟩
                    case measure => simp [intOf]
              · by_cases l1 : (1048576 : Int) < ((V2 k2).size : Int)
                · go_wp2_with fail
                  go_ret
                  exact ⟨_, rfl, rfl⟩
                · have m1 : (0 : Int) ≤ ((V2 k2).size : Int) := by omega
                  by_cases l2 : (1048576 : Int) < y + ((V2 k2).size : Int)
                  · go_wp2_with fail
                    go_ret
                    exact ⟨_, rfl, rfl⟩
                  · go_wp2_with fail
                    go_round
                    case rel => exact ⟨2, y + ((V2 k2).size : Int), by omega, by omega, by omega, rfl, by go_num⟩
                    case measure => simp [intOf]
              · go_wp2_with fail
                go_round
                case rel => exact ⟨k2 + 1, y, by omega, by omega, by omega, rfl, by go_num⟩
                case measure => simp [intOf]; omega
        · have hlt' : ¬ (k2 : Int) < (n2 : Int) := by omega
          clear hlt hk
          by_cases l1 : (1048576 : Int) < (f.size : Int)
          · go_wp2_with fail
            go_ret
            exact ⟨_, rfl, rfl⟩
          · have m1 : (0 : Int) ≤ (f.size : Int) := by omega
            by_cases l2 : (1048576 : Int) < z + (f.size : Int)
            · go_wp2_with fail
              go_ret
              exact ⟨_, rfl, rfl⟩
            · go_wp2_with fail
              go_ret
              exact ⟨_, rfl, rfl⟩
end Go.Proofs.Qxb6605665a
