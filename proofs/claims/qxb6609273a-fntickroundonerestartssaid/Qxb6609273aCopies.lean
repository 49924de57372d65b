/- toNIDs, sortedCopy, sameAs: the law's own helpers over slices of numbers. -/
import Derived.Test.Qxb6609273aWords
import Derived.Deep.OwnRows
import Derived.WalkSpells
import Derived.Sort.WalkA
namespace Go.Proofs.Qxb6609273a
open Go.RowKit Go.Sort

theorem made_holds (w : World) (n : Nat) (e : TypeId) : Holds encU (w.alloc (.cells (madeCells #[.int .u32 0] n) e)) w.heap.size 0 (Array.replicate n 0) := by
  intro j hj
  have hj' : j < n := by simpa using hj
  refine ⟨?_, World.frozen?_alloc_at _ _ _ _ rfl⟩
  rw [World.cell?_alloc_at _ _ _ _ rfl]
  simp [madeCells, hj', Nat.mod_one]

theorem nil28 (w : World) (a : Option Addr) (n c n' c' : Nat) : (binOp .eql 28 (.slice a n c) (.slice none n' c')).run Try.prog w = .ok (.bool a.isNone) w := Lib.run_eql_slice_nil w _ _ a n c n' c' Try.underlying28
theorem nil30 (w : World) (a : Option Addr) (n c n' c' : Nat) : (binOp .eql 30 (.slice a n c) (.slice none n' c')).run Try.prog w = .ok (.bool a.isNone) w := Lib.run_eql_slice_nil w _ _ a n c n' c' Try.underlying30
theorem make30 (n : Nat) (h : n ≤ 4096) (w : World) : (Instr.makeSlice 30 (.int .i64 (n : Int)) (.int .i64 (n : Int))).run Try.prog w = .ok (.slice (some ⟨w.heap.size, 0, none⟩) n n) (w.alloc (.cells (madeCells #[.int .u32 0] n) 34)) :=
  run_make_row' 30 34 (.int .u32 0) 4 Try.underlying30 (by kernel_rfl) rfl .i64 .i64 n (by omega) (by omega) w
theorem make28 (n : Nat) (h : n ≤ 4096) (w : World) : (Instr.makeSlice 28 (.int .i64 (n : Int)) (.int .i64 (n : Int))).run Try.prog w = .ok (.slice (some ⟨w.heap.size, 0, none⟩) n n) (w.alloc (.cells (madeCells #[.int .u32 0] n) 27)) :=
  run_make_row' 28 27 (.int .u32 0) 4 Try.underlying28 (by kernel_rfl) rfl .i64 .i64 n (by omega) (by omega) w

set_option maxHeartbeats 400000 in
theorem toNIDs_nil (n c : Nat) (w : World) : Calls Try.prog 13 #[.slice none n c] w fun e w' => e = .returned (.slice none 0 0) ∧ w' = w := by
  have q := nil28
  go_enter Try.func13, Try.ntmps13
  go_wp2
  go_ret
  exact ⟨rfl, rfl⟩

/-- The first k of the new row are copied. -/
def Part (z : Nat → Int) (k : Nat) (d : Array Int) : Prop := ∀ j, j < k → d[j]! = z j
theorem Part.step {z : Nat → Int} {k : Nat} {d : Array Int} (h : Part z k d) (hk : k < d.size) : Part z (k + 1) (d.setIfInBounds k (z k)) := by
  intro j hj
  by_cases e : j = k
  · subst e; exact getElem!_set_same d j (z j) hk
  · rw [getElem!_set_other d k j (z k) e]; exact h j (by omega)
theorem Part.done {z : Nat → Int} {n : Nat} {d : Array Int} (h : Part z n d) (hs : d.size = n) : d = (lst z n).toArray := by
  apply Array.ext
  · simp [hs]
  · intro i h1 h2
    have := h i (by omega)
    rw [getElem!_pos d i h1] at this
    rw [this]
    simp [lst]

set_option maxHeartbeats 1000000 in
theorem toNIDs_some (x : Addr) (len c : Nat) (z : Nat → Int) (w : World) (hl : len ≤ 4096) (h : IsSeq .u32 w (some x) len z) :
    Calls Try.prog 13 #[.slice (some x) len c] w fun e w' => e = .returned (.slice (some ⟨w.heap.size, 0, none⟩) len len) ∧ RowKit.Below w.heap.size w w' ∧ Row w.heap.size w' (some ⟨w.heap.size, 0, none⟩) (lst z len) ∧ w.heap.size < w'.heap.size := by
  have q := nil28
  have hmk := make30 len hl
  have hM := made_holds w len 34
  have HM : Hid (Holds encU (w.alloc (.cells (madeCells #[.int .u32 0] len) 34)) w.heap.size 0 (Array.replicate len 0)) := hM
  clear hM
  have HS : Hid (IsSeq .u32 w (some x) len z) := h
  clear h
  go_enter Try.func13, Try.ntmps13
  go_wp2
  generalize hW1 : w.alloc (.cells (madeCells #[.int .u32 0] len) 34) = W1 at HM ⊢
  have HW1 : Hid (w.alloc (.cells (madeCells #[.int .u32 0] len) 34) = W1) := hW1
  clear hW1 hmk q
  go_loopw [4] (fun s4 wr => ∃ (k : Nat) (dk : Array Int), s4 = .int .i64 k ∧ k ≤ len ∧ dk.size = len ∧ Part z k dk ∧ wr = putRow encU W1 w.heap.size 0 dk) (fun s4 _ => len - (intOf s4).toNat)
  case atStart => exact ⟨0, Array.replicate len 0, rfl, Nat.zero_le _, by simp, fun j hj => absurd hj (Nat.not_lt_zero _), (putRow_self _ _ _ _ _ HM.out).symm⟩
  case round =>
    obtain ⟨k, dk, rfl, hk, hs, hP, hwr⟩ := hrel
    by_cases hlt : k < len
    · rcases HS.out.2.2 with h0 | ⟨b, off, hx, hb, hc⟩
      · omega
      · injection hx with hx
        subst hx
        have hne : b ≠ w.heap.size := by omega
        have hsrc : wr.cell? ⟨b, off + k, none⟩ = some (.int .u32 (z k)) := by
          rw [hwr, cell?_putRow_other _ _ _ _ _ _ (Or.inl hne), ← HW1.out]
          have := (hc k hlt).1
          rw [World.cell?_of_block (w := w) (Below.heap_alloc w _ b hb)]
          exact this
        have hdst : wr.cell? ⟨w.heap.size, k, none⟩ = some (.int .u32 dk[k]!) := by
          have := cell?_putRow encU W1 w.heap.size 0 _ dk HM.out (by simp [hs]) k (by omega)
          rw [hwr]; simpa using this
        have hfr : wr.frozen? ⟨w.heap.size, k, none⟩ = false := by
          have := (HM.out k (by simpa using hlt)).2
          rw [hwr, frozen?_putRow]; simpa using this
        have HW : Hid (wr = putRow encU W1 w.heap.size 0 dk) := hwr
        have HP : Hid (Part z k dk) := hP
        clear hwr hP hc
        go_wp2
        go_roundw
        case rel => exact ⟨k + 1, dk.setIfInBounds k (z k), by go_num, by omega, by simp [hs], HP.out.step (by omega), by
          rw [HW.out, ← putRow_set encU W1 w.heap.size 0 dk k (z k) (by omega)]; simp⟩
        case measure => simp [intOf]; omega
    · obtain rfl : k = len := by omega
      have HW : Hid (wr = putRow encU W1 w.heap.size 0 dk) := hwr
      clear hwr
      go_wp2
      go_ret
      refine ⟨rfl, ?_, ?_, by rw [HW.out, size_putRow, ← HW1.out]; simp⟩
      · rw [HW.out]
        have k1 : Kp noB w W1 := by rw [← HW1.out]; exact Kp.alloc _ _ _
        have k2 : Kp (fun i => i = w.heap.size) W1 (putRow encU W1 w.heap.size 0 dk) := Kp.putRow W1 0 _ _ _ rfl
        exact (Kp.transNew k1 k2 (fun i hi he => by omega)).toBelow (Nat.le_refl _) (fun _ _ h => h)
      · by_cases h0 : k = 0
        · subst h0; exact .inl rfl
        · refine .inr ⟨_, _, rfl, Nat.le_refl _, ?_, ?_⟩
          · rw [HW.out, size_putRow, ← HW1.out]; simp
          · rw [HW.out, ← hP.done hs]
            exact holds_putRow encU W1 _ 0 _ dk HM.out (by simp [hs])
end Go.Proofs.Qxb6609273a
