/-
  THE WALKS over lists of pairs: the length checks, the clone, the last pair with a key, the count of distinct keys.
-/
import Derived.Test.Qxb6605665aMapRun
namespace Go.Proofs.Qxb6605665a
open Go.RowKit Mp

/-- A slice of pairs: empty; or its cells, two a pair. -/
def Pairs (w : World) (a : Option Addr) (n : Nat) (K V : Nat → ByteArray) : Prop :=
  n = 0 ∨ ∃ b off, a = some ⟨b, off, none⟩ ∧ ∀ i, i < n → w.cell? ⟨b, off + i * 2, none⟩ = some (.string (K i)) ∧ w.cell? ⟨b, off + i * 2 + 1, none⟩ = some (.string (V i))

theorem eq_true {a b : ByteArray} (h : a = b) : (a.toList == b.toList) = true := by rw [ba_list]; simp [h]
theorem eq_false {a b : ByteArray} (h : a ≠ b) : (a.toList == b.toList) = false := by rw [ba_list]; simp [h]

set_option maxHeartbeats 400000 in
theorem last_any (a : Option Addr) (n c : Nat) (K V : Nat → ByteArray) (key : ByteArray) (w : World) (hP : Pairs w a n K V) (hn : n ≤ 1048576) :
    Calls Try.prog 25 #[.slice a n c, .string key] w fun e w' => e = .returned (.tuple #[.string ((last K V n key).getD ⟨#[]⟩), .bool (last K V n key).isSome]) ∧ w' = w := by
  rcases hP with rfl | ⟨b, off, rfl, hc⟩
  · go_enter Try.func25, Try.ntmps25
    go_wp2_with fail
    go_loop [6, 7, 8] (fun v ok i => v = .string ⟨#[]⟩ ∧ ok = .bool false ∧ i = .int .i64 (0 : Int)) (fun _ _ _ => 0)
    case atStart => exact ⟨rfl, rfl, rfl⟩
    case round =>
      obtain ⟨rfl, rfl, rfl⟩ := hrel
      go_wp2_with fail
      go_ret2
      exact ⟨rfl, rfl⟩
  · have Hc := hide hc
    clear hc
    go_enter Try.func25, Try.ntmps25
    go_wp2_with fail
    go_loop [6, 7, 8] (fun v ok i => ∃ k : Nat, k ≤ n ∧ v = .string ((last K V k key).getD ⟨#[]⟩) ∧ ok = .bool (last K V k key).isSome ∧ i = .int .i64 (k : Int)) (fun _ _ i => n - (intOf i).toNat)
    case atStart => exact ⟨0, Nat.zero_le _, rfl, rfl, rfl⟩
    case round =>
      obtain ⟨k, hk, rfl, rfl, rfl⟩ := hrel
      by_cases hlt : k < n
      · obtain ⟨c1, c2⟩ := unhide Hc k hlt
        have hlt' : (k : Int) < (n : Int) := by omega
        by_cases he : K k = key
        · have e1 := eq_true he
          have R := hide (show last K V (k + 1) key = some (V k) by rw [last_succ, if_pos he])
          clear he
          go_wp2_with fail
          go_round
          case rel => exact ⟨k + 1, by omega, by rw [unhide R]; rfl, by rw [unhide R]; rfl, by go_num⟩
          case measure => simp [intOf]; omega
        · have e1 := eq_false he
          have R := hide (show last K V (k + 1) key = last K V k key by rw [last_succ, if_neg he])
          clear he
          go_wp2_with fail
          go_round
          case rel => exact ⟨k + 1, by omega, by rw [unhide R], by rw [unhide R], by go_num⟩
          case measure => simp [intOf]; omega
      · obtain rfl : k = n := by omega
        have hlt' : ¬ (k : Int) < (k : Int) := by omega
        go_wp2_with fail
        go_ret2
        exact ⟨rfl, rfl⟩

set_option maxHeartbeats 400000 in
theorem textBytes_any (s : ByteArray) (w : World) : Calls Try.prog 19 #[.string s] w fun e w' => ∃ r : Int, e = .returned (.int .i64 r) ∧ 0 ≤ r ∧ r ≤ 2097152 ∧ w' = w := by
  by_cases h : (1048576 : Int) < (s.size : Int)
  · go_enter Try.func19, Try.ntmps19
    go_wp2_with fail
    go_ret
    exact ⟨_, rfl, by omega, by omega, rfl⟩
  · go_enter Try.func19, Try.ntmps19
    go_wp2_with fail
    go_ret
    exact ⟨_, rfl, by omega, by omega, rfl⟩

set_option maxHeartbeats 1000000 in
theorem pairBytes_any (a : Option Addr) (n c : Nat) (K V : Nat → ByteArray) (w : World) (hP : Pairs w a n K V) :
    Calls Try.prog 10 #[.slice a n c] w fun e w' => ∃ r : Int, e = .returned (.int .i64 r) ∧ 0 ≤ r ∧ r ≤ 2097152 ∧ (r ≤ 1048576 → (n : Int) * 32 ≤ 1048576) ∧ w' = w := by
  by_cases hbig : (1048576 : Int) < (n : Int)
  · go_enter Try.func10, Try.ntmps10
    go_wp2_with fail
    go_ret
    exact ⟨_, rfl, by omega, by omega, by omega, rfl⟩
  rcases hP with rfl | ⟨b, off, rfl, hc⟩
  · go_enter Try.func10, Try.ntmps10
    go_wp2_with fail
    go_loop [3, 4] (fun v i => v = .int .i64 (0 : Int) ∧ i = .int .i64 (0 : Int)) (fun _ _ => 0)
    case atStart => exact ⟨rfl, rfl⟩
    case round =>
      obtain ⟨rfl, rfl⟩ := hrel
      go_wp2_with fail
      go_ret
      exact ⟨0, rfl, by omega, by omega, rfl⟩
  · have Hc := hide hc
    clear hc
    go_enter Try.func10, Try.ntmps10
    go_wp2_with fail
    go_loop [3, 4] (fun v i => ∃ (k : Nat) (z : Int), k ≤ n ∧ 0 ≤ z ∧ z ≤ 1048576 ∧ (k : Int) * 32 ≤ z ∧ v = .int .i64 z ∧ i = .int .i64 (k : Int)) (fun _ i => n - (intOf i).toNat)
    case atStart => exact ⟨0, 0, Nat.zero_le _, by omega, by omega, by omega, rfl, rfl⟩
    case round =>
      obtain ⟨k, z, hk, z0, z1, z2, rfl, rfl⟩ := hrel
      by_cases hlt : k < n
      · obtain ⟨c1, c2⟩ := unhide Hc k hlt
        have hlt' : (k : Int) < (n : Int) := by omega
        by_cases l1 : (1048576 : Int) < ((K k).size : Int)
        · go_wp2_with fail
          go_ret
          exact ⟨_, rfl, by omega, by omega, by omega, rfl⟩
        · by_cases l2 : (1048576 : Int) < ((V k).size : Int)
          · go_wp2_with fail
            go_ret
            exact ⟨_, rfl, by omega, by omega, by omega, rfl⟩
          · have m1 : (0 : Int) ≤ ((K k).size : Int) := by omega
            have m2 : (0 : Int) ≤ ((V k).size : Int) := by omega
            by_cases l3 : (1048576 : Int) < z + (32 + ((K k).size : Int) + ((V k).size : Int))
            · go_wp2_with fail
              go_ret
              exact ⟨_, rfl, by omega, by omega, by omega, rfl⟩
            · go_wp2_with fail
              go_round
              case rel => exact ⟨k + 1, z + (32 + ((K k).size : Int) + ((V k).size : Int)), by omega, by omega, by omega, by omega, rfl, by go_num⟩
              case measure => simp [intOf]; omega
      · obtain rfl : k = n := by omega
        have hlt' : ¬ (k : Int) < (k : Int) := by omega
        go_wp2_with fail
        go_ret
        exact ⟨_, rfl, by omega, by omega, by omega, rfl⟩
end Go.Proofs.Qxb6605665a
