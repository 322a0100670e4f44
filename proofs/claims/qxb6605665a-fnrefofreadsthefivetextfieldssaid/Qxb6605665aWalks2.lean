/-
  THE WALKS over lists of pairs: the clone, the count of distinct keys.
-/
import Derived.Test.Qxb6605665aWalks1
namespace Go.Proofs.Qxb6605665a
open Go.RowKit Mp

theorem info38 : (Try.prog.info? 38).map (fun i => (i.zero, i.size, i.bytes)) = some (some (.agg #[.string ⟨#[]⟩, .string ⟨#[]⟩]), 2, 32) := by kernel_rfl
theorem make22 (n : Nat) (h : n ≤ 1048576) (w : World) : (Instr.makeSlice 22 (.int .i64 (n : Int)) (.int .i64 (n : Int))).run Try.prog w =
    .ok (.slice (some ⟨w.heap.size, 0, none⟩) n n) (w.alloc (.cells (madeCells #[.string ⟨#[]⟩, .string ⟨#[]⟩] (n * 2)) 38)) := by
  obtain ⟨i0, hi, hz0, hz1, hz2⟩ := info_parts info38
  have := run_make (P := Try.prog) w 22 38 i0 _ Try.underlying22 hi hz0 .i64 .i64 n n (by omega) (by omega) (by rw [hz2]; omega) (by omega)
  rw [hz1, Int.toNat_natCast] at this
  exact this

theorem Pairs.below {w w' : World} {a : Option Addr} {n : Nat} {K V : Nat → ByteArray} (h : Pairs w a n K V) (hb : ∀ b off, a = some ⟨b, off, none⟩ → b < w.heap.size → w'.heap[b]? = w.heap[b]?) : Pairs w' a n K V := by
  rcases h with h | ⟨b, off, e, hc⟩
  · exact Or.inl h
  · by_cases h0 : n = 0
    · exact Or.inl h0
    · have hlt : b < w.heap.size := World.block_lt_of_cell? w _ (hc 0 (by omega)).1
      have q := hb b off e hlt
      exact Or.inr ⟨b, off, e, fun i hi => ⟨(World.cell?_of_block (w := w) (a := ⟨b, _, none⟩) q).trans (hc i hi).1, (World.cell?_of_block (w := w) (a := ⟨b, _, none⟩) q).trans (hc i hi).2⟩⟩
theorem Pairs.of_below {w w' : World} {a : Option Addr} {n : Nat} {K V : Nat → ByteArray} (h : Pairs w a n K V) (hb : Below w.heap.size w w') : Pairs w' a n K V := h.below (fun b _ _ hl => hb.block b hl)

/-- The clone behind k rounds. -/
structure Clone (w wr : World) (n : Nat) (K V : Nat → ByteArray) (k : Nat) : Prop where
  below : Below w.heap.size w wr
  size : wr.heap.size = w.heap.size + 1
  done : ∀ i, i < k → wr.cell? ⟨w.heap.size, i * 2, none⟩ = some (.string (K i)) ∧ wr.cell? ⟨w.heap.size, i * 2 + 1, none⟩ = some (.string (V i))
  room : ∀ j, j < n * 2 → (wr.cell? ⟨w.heap.size, j, none⟩).isSome = true
  frz : ∀ j, wr.frozen? ⟨w.heap.size, j, none⟩ = false

theorem Clone.start (w : World) (n : Nat) (K V : Nat → ByteArray) (z : Array Value) (hz : z.size = n * 2) : Clone w (w.alloc (.cells z 38)) n K V 0 :=
  ⟨(Below.refl _ _).alloc (Nat.le_refl _) _, by simp, fun i hi => absurd hi (by omega), fun j hj => by rw [World.cell?_alloc_new]; simp [hz, hj], fun j => by simp⟩

theorem Clone.step {w wr : World} {n k : Nat} {K V : Nat → ByteArray} (h : Clone w wr n K V k) (hk : k < n) :
    Clone w ((wr.setCell ⟨w.heap.size, k * 2, none⟩ (.string (K k))).setCell ⟨w.heap.size, k * 2 + 1, none⟩ (.string (V k))) n K V (k + 1) := by
  have s0 := h.room (k * 2) (by omega)
  have s1 := h.room (k * 2 + 1) (by omega)
  obtain ⟨u0, hu0⟩ := Option.isSome_iff_exists.1 s0
  obtain ⟨u1, hu1⟩ := Option.isSome_iff_exists.1 s1
  have ne : (⟨w.heap.size, k * 2, none⟩ : Addr) ≠ ⟨w.heap.size, k * 2 + 1, none⟩ := by simp
  have t1 : (wr.setCell ⟨w.heap.size, k * 2, none⟩ (.string (K k))).cell? ⟨w.heap.size, k * 2 + 1, none⟩ = some u1 := by
    rw [World.cell?_setCell_other _ _ _ _ ne]; exact hu1
  have other : ∀ j, j ≠ k * 2 → j ≠ k * 2 + 1 → ((wr.setCell ⟨w.heap.size, k * 2, none⟩ (.string (K k))).setCell ⟨w.heap.size, k * 2 + 1, none⟩ (.string (V k))).cell? ⟨w.heap.size, j, none⟩ = wr.cell? ⟨w.heap.size, j, none⟩ := fun j h1 h2 => by
    rw [World.cell?_setCell_other _ _ _ _ (fun e => h2 (congrArg Addr.off e).symm), World.cell?_setCell_other _ _ _ _ (fun e => h1 (congrArg Addr.off e).symm)]
  have at0 : ((wr.setCell ⟨w.heap.size, k * 2, none⟩ (.string (K k))).setCell ⟨w.heap.size, k * 2 + 1, none⟩ (.string (V k))).cell? ⟨w.heap.size, k * 2, none⟩ = some (.string (K k)) := by
    rw [World.cell?_setCell_other _ _ _ _ (Ne.symm ne)]; exact World.cell?_setCell_same _ _ _ hu0
  have at1 : ((wr.setCell ⟨w.heap.size, k * 2, none⟩ (.string (K k))).setCell ⟨w.heap.size, k * 2 + 1, none⟩ (.string (V k))).cell? ⟨w.heap.size, k * 2 + 1, none⟩ = some (.string (V k)) := World.cell?_setCell_same _ _ _ t1
  refine ⟨(h.below.setCell (Nat.le_refl _) _).setCell (Nat.le_refl _) _, by simp [World.setCell, h.size], fun i hi => ?_, fun j hj => ?_, fun j => by rw [World.frozen?_setCell, World.frozen?_setCell]; exact h.frz j⟩
  · by_cases e : i = k
    · subst e; exact ⟨at0, at1⟩
    · rw [other _ (by omega) (by omega), other _ (by omega) (by omega)]; exact h.done i (by omega)
  · by_cases e0 : j = k * 2
    · subst e0; rw [at0]; rfl
    · by_cases e1 : j = k * 2 + 1
      · subst e1; rw [at1]; rfl
      · rw [other j e0 e1]; exact h.room j hj

/-- What the clone leaves. -/
def Cloned (w : World) (n : Nat) (K V : Nat → ByteArray) (e : Ending) (w' : World) : Prop :=
  ∃ a' c', e = .returned (.slice a' n c') ∧ Pairs w' a' n K V ∧ Below w.heap.size w w' ∧ ∀ b o, a' = some ⟨b, o, none⟩ → w.heap.size ≤ b

set_option maxHeartbeats 1000000 in
theorem clone_any (a : Option Addr) (n c : Nat) (K V : Nat → ByteArray) (w : World) (hP : Pairs w a n K V) (ha : a = none → n = 0 ∧ c = 0) (hn : n ≤ 1048576) :
    Calls Try.prog 12 #[.slice a n c] w fun e w' => Cloned w n K V e w' := by
  cases a with
  | none =>
    obtain ⟨rfl, rfl⟩ := ha rfl
    have hq := fun w => Lib.run_eql_slice_nil (P := Try.prog) w 22 38 none 0 0 0 0 Try.underlying22
    go_enter Try.func12, Try.ntmps12
    go_wp2_with fail
    go_ret
    exact ⟨none, 0, rfl, Or.inl rfl, Below.refl _ _, fun b o h => by cases h⟩
  | some ad =>
    have hq := fun w => Lib.run_eql_slice_nil (P := Try.prog) w 22 38 (some ad) n c 0 0 Try.underlying22
    have hm := make22 n hn
    have HP := hide hP
    have HS := hide (Clone.start w n K V (madeCells #[.string ⟨#[]⟩, .string ⟨#[]⟩] (n * 2)) (size_madeCells _ _))
    clear hP ha
    go_enter Try.func12, Try.ntmps12
    go_wp2_with fail
    go_loopw [4] (fun i wr => ∃ k : Nat, k ≤ n ∧ i = .int .i64 (k : Int) ∧ Hid (Clone w wr n K V k)) (fun i _ => n - (intOf i).toNat)
    case atStart => exact ⟨0, Nat.zero_le _, rfl, unhide HS⟩
    case round =>
      clear HS
      obtain ⟨k, hk, rfl, HC⟩ := hrel
      by_cases hlt : k < n
      · rcases unhide HP with h0 | ⟨b, off, e, hc⟩
        · omega
        · cases e
          obtain ⟨c1, c2⟩ := hc k hlt
          have q1 := (unhide HC).below.cell (p := ⟨b, off + k * 2, none⟩) (World.block_lt_of_cell? w _ c1)
          have q2 := (unhide HC).below.cell (p := ⟨b, off + k * 2 + 1, none⟩) (World.block_lt_of_cell? w _ c2)
          rw [c1] at q1
          rw [c2] at q2
          obtain ⟨u0, hu0⟩ := Option.isSome_iff_exists.1 ((unhide HC).room (k * 2) (by omega))
          obtain ⟨u1, hu1⟩ := Option.isSome_iff_exists.1 ((unhide HC).room (k * 2 + 1) (by omega))
          have f0 := (unhide HC).frz (k * 2)
          have f1 := (unhide HC).frz (k * 2 + 1)
          have hlt' : (k : Int) < (n : Int) := by omega
          have R := hide ((unhide HC).step hlt)
          clear c1 c2 hc HP
          go_wp2_with fail
          go_roundw
          case rel => exact ⟨k + 1, by omega, by go_num, unhide R⟩
          case measure => simp [intOf]; omega
      · obtain rfl : k = n := by omega
        have hlt' : ¬ (k : Int) < (k : Int) := by omega
        go_wp2_with fail
        go_ret
        exact ⟨_, _, rfl, Or.inr ⟨w.heap.size, 0, rfl, fun i hi => by rw [Nat.zero_add]; exact (unhide HC).done i hi⟩, (unhide HC).below, fun b o h => by simp at h; omega⟩

/-! ### The distinct keys -/
/-- Which keys count. -/
def keep (skip : ByteArray) (skipIt : Bool) (x : ByteArray) : Bool := !(skipIt && decide (x = skip))

set_option maxHeartbeats 2000000 in
theorem distinct_any (a : Option Addr) (n c : Nat) (K V : Nat → ByteArray) (skip : ByteArray) (skipIt : Bool) (w : World) (hP : Pairs w a n K V) (hn : n ≤ 1048576) :
    Calls Try.prog 27 #[.slice a n c, .string skip, .bool skipIt] w fun e w' => e = .returned (.int .i64 (dcount K (keep skip skipIt) n n : Nat)) ∧ ∃ q, w' = w.drewN q := by
  rcases hP with rfl | ⟨b, off, rfl, hc⟩
  · go_enter Try.func27, Try.ntmps27
    go_wp2_with fail
    go_loop [7, 8] (fun v i => v = .int .i64 (0 : Int) ∧ i = .int .i64 (0 : Int)) (fun _ _ => 0)
    case atStart => exact ⟨rfl, rfl⟩
    case round =>
      obtain ⟨rfl, rfl⟩ := hrel
      go_wp2_with fail
      go_ret
      exact ⟨rfl, 0, rfl⟩
  · have Hc := hide hc
    clear hc
    go_enter Try.func27, Try.ntmps27
    go_wp2_with fail
    go_loopw [7, 8] (fun v i wr => ∃ (t q : Nat), t ≤ n ∧ v = .int .i64 (dcount K (keep skip skipIt) n t : Nat) ∧ i = .int .i64 (t : Int) ∧ wr = w.drewN q) (fun _ i _ => n - (intOf i).toNat)
    case atStart => exact ⟨0, 0, Nat.zero_le _, rfl, rfl, rfl⟩
    case round =>
      obtain ⟨t, q, ht, rfl, rfl, rfl⟩ := hrel
      have hle := dcount_le K (keep skip skipIt) n t
      by_cases hlt : t < n
      · have hlt' : (t : Int) < (n : Int) := by omega
        obtain ⟨t1, _⟩ := unhide Hc t hlt
        go_wp2_with fail
        go_loopw [9, 10] (fun d j wr => ∃ (m q : Nat), t + 1 ≤ m ∧ m ≤ n ∧ d = .bool (dupTo K t m) ∧ j = .int .i64 (m : Int) ∧ wr = w.drewN q) (fun _ j _ => n - (intOf j).toNat)
        case atStart => exact ⟨t + 1, q, Nat.le_refl _, by omega, by rw [dupTo_low K t (t + 1) (Nat.le_refl _)], by go_num, rfl⟩
        case round =>
          obtain ⟨m, q, hm1, hm2, rfl, rfl, rfl⟩ := hrel
          by_cases hm : m < n
          · have hm' : (m : Int) < (n : Int) := by omega
            obtain ⟨m1, _⟩ := unhide Hc m hm
            by_cases he : K m = K t
            · have e1 := eq_true he
              have R := hide (show dupTo K t (m + 1) = true by rw [dupTo_succ, decide_eq_true (by omega : t < m), decide_eq_true he]; simp)
              clear he
              go_wp2_with fail
              go_quiet (fail)
              go_wp2_with fail
              go_roundw
              case rel => exact ⟨m + 1, q + nq, by omega, by omega, by rw [unhide R], by go_num, by simp [World.drewN]⟩
              case measure => simp [intOf]; omega
            · have e1 := eq_false he
              have R := hide (show dupTo K t (m + 1) = dupTo K t m by rw [dupTo_succ, decide_eq_false he]; simp)
              clear he
              go_wp2_with fail
              go_quiet (fail)
              go_wp2_with fail
              go_roundw
              case rel => exact ⟨m + 1, q + nq, by omega, by omega, by rw [unhide R], by go_num, by simp [World.drewN]⟩
              case measure => simp [intOf]; omega
          · obtain rfl : m = n := by omega
            have hm' : ¬ (m : Int) < (m : Int) := by omega
            have hs := dcount_succ K (keep skip skipIt) m t
            cases hd : dupTo K t m with
            | true =>
              rw [hd] at hs
              have R := hide (show dcount K (keep skip skipIt) m (t + 1) = dcount K (keep skip skipIt) m t by rw [hs]; simp)
              clear hs hd
              go_wp2_with fail
              go_roundw
              case rel => exact ⟨t + 1, q, by omega, by rw [unhide R], by go_num, rfl⟩
              case measure => simp [intOf]; omega
            | false =>
              rw [hd] at hs
              cases skipIt with
              | false =>
                have R := hide (show dcount K (keep skip false) m (t + 1) = dcount K (keep skip false) m t + 1 by rw [hs]; simp [keep])
                clear hs hd
                go_wp2_with fail
                go_roundw
                case rel => exact ⟨t + 1, q, by omega, by rw [unhide R]; go_num, by go_num, rfl⟩
                case measure => simp [intOf]; omega
              | true =>
                by_cases he : K t = skip
                · have e1 := eq_true he
                  have R := hide (show dcount K (keep skip true) m (t + 1) = dcount K (keep skip true) m t by rw [hs]; simp [keep, he])
                  clear hs hd he
                  go_wp2_with fail
                  go_roundw
                  case rel => exact ⟨t + 1, q, by omega, by rw [unhide R], by go_num, rfl⟩
                  case measure => simp [intOf]; omega
                · have e1 := eq_false he
                  have R := hide (show dcount K (keep skip true) m (t + 1) = dcount K (keep skip true) m t + 1 by rw [hs]; simp [keep, he])
                  clear hs hd he
                  go_wp2_with fail
                  go_roundw
                  case rel => exact ⟨t + 1, q, by omega, by rw [unhide R]; go_num, by go_num, rfl⟩
                  case measure => simp [intOf]; omega
      · obtain rfl : t = n := by omega
        have hlt' : ¬ (t : Int) < (t : Int) := by omega
        go_wp2_with fail
        go_ret
        exact ⟨rfl, q, rfl⟩
end Go.Proofs.Qxb6605665a
