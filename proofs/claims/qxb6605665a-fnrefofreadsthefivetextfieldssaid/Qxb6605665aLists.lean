/-
  THE WALKS over lists of strings: the length check, the clone, the text that a key holds; and the bound on all lengths of the law FnRefOfReadsTheFiveTextFields.
-/
import Derived.Test.Qxb6605665aBytes
namespace Go.Proofs.Qxb6605665a
open Go.RowKit Mp

/-! ### The plain law: keys that a list of strings names -/
def inT (T : Nat → ByteArray) : Nat → ByteArray → Bool
  | 0, _ => false
  | m + 1, k => inT T m k || decide (T m = k)
theorem inT_succ (T : Nat → ByteArray) (m : Nat) (k : ByteArray) : inT T (m + 1) k = (inT T m k || decide (T m = k)) := rfl
theorem inT_of {T : Nat → ByteArray} {m j : Nat} {k : ByteArray} (hj : j < m) (h : T j = k) : inT T m k = true := by
  induction m with
  | zero => omega
  | succ m ih =>
    rw [inT_succ]
    by_cases e : j = m
    · subst e; simp [h]
    · rw [ih (by omega)]; rfl
theorem lk_insN (S : List (ByteArray × Value)) (T : Nat → ByteArray) (v : Value) (m : Nat) (k : ByteArray) : lk (insN S T v m) k = if inT T m k then some v else lk S k := by
  induction m with
  | zero => rfl
  | succ m ih =>
    rw [insN_succ, lk_ins, ih, inT_succ]
    by_cases h : k = T m
    · rw [if_pos h]; have : decide (T m = k) = true := by simp [h]
      rw [this]; simp
    · rw [if_neg h]; have : decide (T m = k) = false := by simp; exact fun e => h e.symm
      rw [this, Bool.or_false]
/-- The text that the model says. -/
def textOf (K V : Nat → ByteArray) (n : Nat) (T : Nat → ByteArray) (m : Nat) (key : ByteArray) : ByteArray := if inT T m key then ⟨#[]⟩ else (last K V n key).getD ⟨#[]⟩

/-! ### zzListBytes -/
theorem Strs.below {w w' : World} {a : Option Addr} {n : Nat} {T : Nat → ByteArray} (h : Strs w a n T) (hb : ∀ b off, a = some ⟨b, off, none⟩ → b < w.heap.size → w'.heap[b]? = w.heap[b]?) : Strs w' a n T := by
  rcases h with h | ⟨b, off, e, hc⟩
  · exact Or.inl h
  · by_cases h0 : n = 0
    · exact Or.inl h0
    · have hlt : b < w.heap.size := World.block_lt_of_cell? w _ (hc 0 (by omega))
      have q := hb b off e hlt
      exact Or.inr ⟨b, off, e, fun i hi => (World.cell?_of_block (w := w) (a := ⟨b, _, none⟩) q).trans (hc i hi)⟩
theorem Strs.of_below {w w' : World} {a : Option Addr} {n : Nat} {T : Nat → ByteArray} (h : Strs w a n T) (hb : Below w.heap.size w w') : Strs w' a n T := h.below (fun b _ _ hl => hb.block b hl)

set_option maxHeartbeats 1000000 in
theorem listBytes_any (a : Option Addr) (n c : Nat) (T : Nat → ByteArray) (w : World) (hP : Strs w a n T) :
    Calls Try.prog 11 #[.slice a n c] w fun e w' => ∃ r : Int, e = .returned (.int .i64 r) ∧ 0 ≤ r ∧ r ≤ 2097152 ∧ (r ≤ 1048576 → (n : Int) * 16 ≤ 1048576) ∧ w' = w := by
  by_cases hbig : (1048576 : Int) < (n : Int)
  · go_enter Try.func11, Try.ntmps11
    go_wp2_with fail
    go_ret
    exact ⟨_, rfl, by omega, by omega, by omega, rfl⟩
  rcases hP with rfl | ⟨b, off, rfl, hc⟩
  · go_enter Try.func11, Try.ntmps11
    go_wp2_with fail
    go_loop [3, 4] (fun v i => v = .int .i64 (0 : Int) ∧ i = .int .i64 (0 : Int)) (fun _ _ => 0)
    case atStart => exact ⟨rfl, rfl⟩
    case round =>
      obtain ⟨rfl, rfl⟩ := hrel
      go_wp2_with fail
      go_ret
      exact ⟨0, rfl, by omega, by omega, rfl⟩
  · have Hc := hide hc
    clear hc
    go_enter Try.func11, Try.ntmps11
    go_wp2_with fail
    go_loop [3, 4] (fun v i => ∃ (k : Nat) (z : Int), k ≤ n ∧ 0 ≤ z ∧ z ≤ 1048576 ∧ (k : Int) * 16 ≤ z ∧ v = .int .i64 z ∧ i = .int .i64 (k : Int)) (fun _ i => n - (intOf i).toNat)
    case atStart => exact ⟨0, 0, Nat.zero_le _, by omega, by omega, by omega, rfl, rfl⟩
    case round =>
      obtain ⟨k, z, hk, z0, z1, z2, rfl, rfl⟩ := hrel
      by_cases hlt : k < n
      · have c1 := unhide Hc k hlt
        have hlt' : (k : Int) < (n : Int) := by omega
        by_cases l1 : (1048576 : Int) < ((T k).size : Int)
        · go_wp2_with fail
          go_ret
          exact ⟨_, rfl, by omega, by omega, by omega, rfl⟩
        · have m1 : (0 : Int) ≤ ((T k).size : Int) := by omega
          by_cases l3 : (1048576 : Int) < z + (16 + ((T k).size : Int))
          · go_wp2_with fail
            go_ret
            exact ⟨_, rfl, by omega, by omega, by omega, rfl⟩
          · go_wp2_with fail
            go_round
            case rel => exact ⟨k + 1, z + (16 + ((T k).size : Int)), by omega, by omega, by omega, by omega, rfl, by go_num⟩
            case measure => simp [intOf]; omega
      · obtain rfl : k = n := by omega
        have hlt' : ¬ (k : Int) < (k : Int) := by omega
        go_wp2_with fail
        go_ret
        exact ⟨_, rfl, by omega, by omega, by omega, rfl⟩

/-! ### zzCloneList -/
theorem info9 : (Try.prog.info? 9).map (fun i => (i.zero, i.size, i.bytes)) = some (some (.string ⟨#[]⟩), 1, 16) := by kernel_rfl
theorem make23 (n : Nat) (h : n ≤ 1048576) (w : World) : (Instr.makeSlice 23 (.int .i64 (n : Int)) (.int .i64 (n : Int))).run Try.prog w =
    .ok (.slice (some ⟨w.heap.size, 0, none⟩) n n) (w.alloc (.cells (madeCells #[.string ⟨#[]⟩] n) 9)) := by
  obtain ⟨i0, hi, hz0, hz1, hz2⟩ := info_parts info9
  have := run_make (P := Try.prog) w 23 9 i0 _ Try.underlying23 hi hz0 .i64 .i64 n n (by omega) (by omega) (by rw [hz2]; omega) (by omega)
  rw [hz1, Nat.mul_one, Int.toNat_natCast] at this
  exact this

structure CloneL (w wr : World) (n : Nat) (T : Nat → ByteArray) (k : Nat) : Prop where
  below : Below w.heap.size w wr
  size : wr.heap.size = w.heap.size + 1
  done : ∀ i, i < k → wr.cell? ⟨w.heap.size, i, none⟩ = some (.string (T i))
  room : ∀ j, j < n → (wr.cell? ⟨w.heap.size, j, none⟩).isSome = true
  frz : ∀ j, wr.frozen? ⟨w.heap.size, j, none⟩ = false
theorem CloneL.start (w : World) (n : Nat) (T : Nat → ByteArray) (z : Array Value) (hz : z.size = n) : CloneL w (w.alloc (.cells z 9)) n T 0 :=
  ⟨(Below.refl _ _).alloc (Nat.le_refl _) _, by simp, fun i hi => absurd hi (by omega), fun j hj => by rw [World.cell?_alloc_new]; simp [hz, hj], fun j => by simp⟩
theorem CloneL.step {w wr : World} {n k : Nat} {T : Nat → ByteArray} (h : CloneL w wr n T k) (hk : k < n) : CloneL w (wr.setCell ⟨w.heap.size, k, none⟩ (.string (T k))) n T (k + 1) := by
  obtain ⟨u0, hu0⟩ := Option.isSome_iff_exists.1 (h.room k hk)
  have other : ∀ j, j ≠ k → (wr.setCell ⟨w.heap.size, k, none⟩ (.string (T k))).cell? ⟨w.heap.size, j, none⟩ = wr.cell? ⟨w.heap.size, j, none⟩ := fun j h1 =>
    World.cell?_setCell_other _ _ _ _ (fun e => h1 (congrArg Addr.off e).symm)
  have at0 : (wr.setCell ⟨w.heap.size, k, none⟩ (.string (T k))).cell? ⟨w.heap.size, k, none⟩ = some (.string (T k)) := World.cell?_setCell_same _ _ _ hu0
  refine ⟨h.below.setCell (Nat.le_refl _) _, by simp [World.setCell, h.size], fun i hi => ?_, fun j hj => ?_, fun j => by rw [World.frozen?_setCell]; exact h.frz j⟩
  · by_cases e : i = k
    · subst e; exact at0
    · rw [other _ e]; exact h.done i (by omega)
  · by_cases e0 : j = k
    · subst e0; rw [at0]; rfl
    · rw [other j e0]; exact h.room j hj

/-- What the clone leaves. -/
def ClonedL (w : World) (n : Nat) (T : Nat → ByteArray) (e : Ending) (w' : World) : Prop :=
  ∃ a' c', e = .returned (.slice a' n c') ∧ Strs w' a' n T ∧ Below w.heap.size w w'

set_option maxHeartbeats 1000000 in
theorem cloneL_any (a : Option Addr) (n c : Nat) (T : Nat → ByteArray) (w : World) (hP : Strs w a n T) (ha : a = none → n = 0 ∧ c = 0) (hn : n ≤ 1048576) :
    Calls Try.prog 13 #[.slice a n c] w fun e w' => ClonedL w n T e w' := by
  cases a with
  | none =>
    obtain ⟨rfl, rfl⟩ := ha rfl
    have hq := fun w => Lib.run_eql_slice_nil (P := Try.prog) w 23 9 none 0 0 0 0 Try.underlying23
    go_enter Try.func13, Try.ntmps13
    go_wp2_with fail
    go_ret
    exact ⟨none, 0, rfl, Or.inl rfl, Below.refl _ _⟩
  | some ad =>
    have hq := fun w => Lib.run_eql_slice_nil (P := Try.prog) w 23 9 (some ad) n c 0 0 Try.underlying23
    have hm := make23 n hn
    have HP := hide hP
    have HS := hide (CloneL.start w n T (madeCells #[.string ⟨#[]⟩] n) (size_madeCells _ _))
    clear hP ha
    go_enter Try.func13, Try.ntmps13
    go_wp2_with fail
    go_loopw [4] (fun i wr => ∃ k : Nat, k ≤ n ∧ i = .int .i64 (k : Int) ∧ Hid (CloneL w wr n T k)) (fun i _ => n - (intOf i).toNat)
    case atStart => exact ⟨0, Nat.zero_le _, rfl, unhide HS⟩
    case round =>
      clear HS
      obtain ⟨k, hk, rfl, HC⟩ := hrel
      by_cases hlt : k < n
      · rcases unhide HP with h0 | ⟨b, off, e, hc⟩
        · omega
        · cases e
          have c1 := hc k hlt
          have q1 := (unhide HC).below.cell (p := ⟨b, off + k, none⟩) (World.block_lt_of_cell? w _ c1)
          rw [c1] at q1
          obtain ⟨u0, hu0⟩ := Option.isSome_iff_exists.1 ((unhide HC).room k hlt)
          have f0 := (unhide HC).frz k
          have hlt' : (k : Int) < (n : Int) := by omega
          have R := hide ((unhide HC).step hlt)
          clear c1 hc HP
          go_wp2_with fail
          go_roundw
          case rel => exact ⟨k + 1, by omega, by go_num, unhide R⟩
          case measure => simp [intOf]; omega
      · obtain rfl : k = n := by omega
        have hlt' : ¬ (k : Int) < (k : Int) := by omega
        go_wp2_with fail
        go_ret
        exact ⟨_, _, rfl, Or.inr ⟨w.heap.size, 0, rfl, fun i hi => by rw [Nat.zero_add]; exact (unhide HC).done i hi⟩, (unhide HC).below⟩

/-! ### zzTextOf -/
set_option maxHeartbeats 1000000 in
theorem textOf_any (a : Option Addr) (n c : Nat) (K V : Nat → ByteArray) (a2 : Option Addr) (m c2 : Nat) (T : Nat → ByteArray) (key : ByteArray) (w : World) (hP : Pairs w a n K V) (hT : Strs w a2 m T) (hn : n ≤ 1048576) (hm : m ≤ 1048576) :
    Calls Try.prog 17 #[.slice a n c, .slice a2 m c2, .string key] w fun e w' => e = .returned (.string (textOf K V n T m key)) ∧ w' = w := by
  have HL := hide (last_any a n c K V key w hP hn)
  have HT := hide hT
  clear hP hT
  go_enter Try.func17, Try.ntmps17
  go_wp2_with fail
  go_loop [7] (fun i => ∃ k : Nat, k ≤ m ∧ i = .int .i64 (k : Int) ∧ Hid (inT T k key = false)) (fun i => m - (intOf i).toNat)
  case atStart => exact ⟨0, Nat.zero_le _, rfl, rfl⟩
  case round =>
    obtain ⟨k, hk, rfl, HF⟩ := hrel
    by_cases hlt : k < m
    · rcases unhide HT with h0 | ⟨b, off, e, hc⟩
      · omega
      · subst e
        have c1 := hc k hlt
        have hlt' : (k : Int) < (m : Int) := by omega
        by_cases he : T k = key
        · have e1 := eq_true he
          have R := hide (show textOf K V n T m key = ⟨#[]⟩ by unfold textOf; rw [if_pos (inT_of hlt he)])
          clear he hc HT
          go_wp2_with fail
          go_ret
          rw [unhide R]
          exact ⟨rfl, rfl⟩
        · have e1 := eq_false he
          have R := hide (show inT T (k + 1) key = false by rw [inT_succ, unhide HF, decide_eq_false he]; rfl)
          clear he hc HT
          go_wp2_with fail
          go_round
          case rel => exact ⟨k + 1, by omega, by go_num, unhide R⟩
          case measure => simp [intOf]; omega
    · obtain rfl : k = m := by omega
      have hlt' : ¬ (k : Int) < (k : Int) := by omega
      have R := hide (show textOf K V n T k key = (last K V n key).getD ⟨#[]⟩ by unfold textOf; rw [unhide HF]; rfl)
      clear hlt hk HT
      go_wp2_with fail
      refine (unhide HL).mono ?_
      rintro e w' ⟨rfl, hw⟩
      have hw := hw.symm
      subst hw
      go_wp2_with fail
      go_ret
      rw [unhide R]
      exact ⟨rfl, rfl⟩

end Go.Proofs.Qxb6605665a
