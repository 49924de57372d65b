/- sortedCopy computes the ascending list; sameAs says yes of one list. -/
import Derived.Test.Qxb6609273aCopies
namespace Go.Proofs.Qxb6609273a
open Go.RowKit Go.Sort

/-- The ascending list. -/
def srt (l : List Int) : List Int := l.mergeSort fun x y => decide (x ≤ y)
@[simp] theorem srt_length (l : List Int) : (srt l).length = l.length := by simp [srt]

theorem insertionSort_srt (l : List Int) : Sort.insertionSort ltInt l.toArray 0 l.length = (srt l).toArray := by
  obtain ⟨hP, hSo⟩ := insertionSort_holds (lt := ltInt) swo_ltInt l.toArray 0 l.length (Nat.zero_le _) (by simp)
  have h := sorted_unique_holds swo_ltInt (fun x y h1 h2 => by simp only [ltInt, decide_eq_false_iff_not] at h1 h2; omega) l.toArray _ (by simpa using hP) (by simpa using hSo)
  have e : (fun x y : Int => !ltInt y x) = fun x y => decide (x ≤ y) := by
    funext x y
    show (!decide (y < x)) = decide (x ≤ y)
    by_cases h : x ≤ y
    · have h' : ¬ y < x := by omega
      simp [h, h']
    · have h' : y < x := by omega
      simp [h, h']
  rw [e] at h
  unfold srt
  rw [← h]

theorem swp_comm (d : Array Int) (i j : Nat) (hi : i < d.size) (hj : j < d.size) (hne : i ≠ j) : swp d i j = swp d j i := by
  unfold swp
  apply Array.ext_getElem?
  intro k
  simp only [Array.getElem?_setIfInBounds, Array.size_setIfInBounds]
  by_cases h1 : j = k
  · subst h1
    have : ¬ i = j := hne
    simp [hj, this]
  · by_cases h2 : i = k
    · subst h2; simp [h1, hi]
    · simp [h1, h2]

set_option maxHeartbeats 2000000 in
theorem sortedCopy_any (a : Option Addr) (len c : Nat) (z : Nat → Int) (w : World) (hl : len ≤ 4096) (h : IsSeq .u32 w a len z) :
    Calls Try.prog 17 #[.slice a len c] w fun e w' => e = .returned (.slice (some ⟨w.heap.size, 0, none⟩) len len) ∧ RowKit.Below w.heap.size w w' ∧ Row w.heap.size w' (some ⟨w.heap.size, 0, none⟩) (srt (lst z len)) ∧ w.heap.size < w'.heap.size := by
  have hmk := make28 len hl
  have hM := made_holds w len 27
  have HM : Hid (Holds encU (w.alloc (.cells (madeCells #[.int .u32 0] len) 27)) w.heap.size 0 (Array.replicate len 0)) := hM
  clear hM
  have HS : Hid (IsSeq .u32 w a len z) := h
  clear h
  go_enter Try.func17, Try.ntmps17
  go_wp2
  generalize hW1 : w.alloc (.cells (madeCells #[.int .u32 0] len) 27) = W1 at HM ⊢
  have HW1 : Hid (w.alloc (.cells (madeCells #[.int .u32 0] len) 27) = W1) := hW1
  clear hW1 hmk
  go_loopw [4] (fun s4 wr => ∃ (k : Nat) (dk : Array Int), s4 = .int .i64 k ∧ k ≤ len ∧ dk.size = len ∧ Part z k dk ∧ wr = putRow encU W1 w.heap.size 0 dk) (fun s4 _ => len - (intOf s4).toNat)
  case atStart => exact ⟨0, Array.replicate len 0, rfl, Nat.zero_le _, by simp, fun j hj => absurd hj (Nat.not_lt_zero _), (putRow_self _ _ _ _ _ HM.out).symm⟩
  case round =>
    obtain ⟨k, dk, rfl, hk, hs, hP, hwr⟩ := hrel
    by_cases hlt : k < len
    · rcases HS.out.2.2 with h0 | ⟨b, off, hx, hb, hc⟩
      · omega
      · subst hx
        have hne : b ≠ w.heap.size := by omega
        have hsrc : wr.cell? ⟨b, off + k, none⟩ = some (.int .u32 (z k)) := by
          rw [hwr, cell?_putRow_other _ _ _ _ _ _ (Or.inl hne), ← HW1.out]
          have := (hc k hlt).1
          rw [World.cell?_of_block (w := w) (Below.heap_alloc w _ b hb)]
          exact this
        have hdst : wr.cell? ⟨w.heap.size, k, none⟩ = some (.int .u32 dk[k]!) := by
          have := cell?_putRow encU W1 w.heap.size 0 _ dk HM.out (by simp [hs]) k (by omega)
          rw [hwr]; simpa using this
        have hfr : wr.frozen? ⟨w.heap.size, k, none⟩ = false := by
          have := (HM.out k (by simpa using hlt)).2
          rw [hwr, frozen?_putRow]; simpa using this
        have HW : Hid (wr = putRow encU W1 w.heap.size 0 dk) := hwr
        have HP : Hid (Part z k dk) := hP
        clear hwr hP hc
        go_wp2
        go_roundw
        case rel => exact ⟨k + 1, dk.setIfInBounds k (z k), by go_num, by omega, by simp [hs], HP.out.step (by omega), by
          rw [HW.out, ← putRow_set encU W1 w.heap.size 0 dk k (z k) (by omega)]; simp⟩
        case measure => simp [intOf]; omega
    · obtain rfl : k = len := by omega
      -- the copy stands: the insertion sort
      have hd : dk = (lst z k).toArray := hP.done hs
      have HH : Hid (Holds encU wr w.heap.size 0 dk) := by rw [hwr]; exact holds_putRow encU W1 _ 0 _ dk HM.out (by simp [hs])
      have HB : Hid (RowKit.Below w.heap.size w wr) := by
        show RowKit.Below _ _ _
        rw [hwr]
        have k1 : Kp noB w W1 := by rw [← HW1.out]; exact Kp.alloc _ _ _
        have k2 : Kp (fun i => i = w.heap.size) W1 (putRow encU W1 w.heap.size 0 dk) := Kp.putRow W1 0 _ _ _ rfl
        exact (Kp.transNew k1 k2 (fun i hi he => by omega)).toBelow (Nat.le_refl _) (fun _ _ h => h)
      have HZ : Hid (w.heap.size < wr.heap.size) := by show _ < _; rw [hwr, size_putRow, ← HW1.out]; simp
      have HD : Hid (dk = (lst z k).toArray) := hd
      clear hd hwr hP HW1 HM HS
      generalize wr = V at HH HB HZ ⊢
      go_wp2
      go_loopw [5] (fun s5 w2 => ∃ (i n : Nat) (di : Array Int), s5 = .int .i64 i ∧ 1 ≤ i ∧ i ≤ k + 1 ∧ di.size = k ∧ w2 = putRow encU (Sort.ahead V n) w.heap.size 0 di ∧ insOuter ltInt 0 k i di = insOuter ltInt 0 k 1 dk) (fun s5 _ => k + 1 - (intOf s5).toNat)
      case atStart => exact ⟨1, 0, dk, rfl, Nat.le_refl _, by omega, hs, (putRow_self _ _ _ _ _ HH.out).symm, rfl⟩
      case round =>
        obtain ⟨i, n, di, rfl, hi1, hi2, hsi, hw2, hO⟩ := hrel
        have HO : Hid (insOuter ltInt 0 k i di = insOuter ltInt 0 k 1 dk) := hO
        clear hO
        by_cases hik : i < k
        · have HW2 : Hid (wr = putRow encU (Sort.ahead V n) w.heap.size 0 di) := hw2
          clear hw2
          go_wp2
          generalize wr = V2 at HW2 ⊢
          go_loopw [6, 7] (fun s6 _ w3 => ∃ (j m : Nat) (dj : Array Int), s6 = .int .i64 j ∧ j ≤ i ∧ dj.size = k ∧ w3 = putRow encU (Sort.ahead V m) w.heap.size 0 dj ∧ insInner ltInt 0 j dj = insInner ltInt 0 i di) (fun s6 _ _ => (intOf s6).toNat)
          case atStart => exact ⟨i, n, di, rfl, Nat.le_refl _, hsi, HW2.out, rfl⟩
          case round =>
            obtain ⟨j, m, dj, rfl, hji, hsj, hw3, hI⟩ := hrel
            obtain ⟨G, hG⟩ : ∃ G : Nat → Int, ∀ t, G t = dj[t]! := ⟨fun t => dj[t]!, fun _ => rfl⟩
            have hcw : ∀ t, t < k → wr.cell? ⟨w.heap.size, t, none⟩ = some (.int .u32 (G t)) := fun t ht => by
              have := cell?_putRow encU _ w.heap.size 0 dk dj (holds_ahead encU V m _ _ _ HH.out) (by omega) t (by omega)
              rw [hw3, hG]; simpa using this
            have hfw : ∀ t, t < k → wr.frozen? ⟨w.heap.size, t, none⟩ = false := fun t ht => by
              have := ((holds_ahead encU V m _ _ _ HH.out) t (by omega)).2
              rw [hw3, frozen?_putRow]; simpa using this
            have HW : Hid (wr = putRow encU (Sort.ahead V m) w.heap.size 0 dj) := hw3
            have HG : Hid (∀ t, G t = dj[t]!) := hG
            have HI : Hid (insInner ltInt 0 j dj = insInner ltInt 0 i di) := hI
            clear hw3 hG hI
            by_cases hj : 0 < j
            · have hjz : (0 : Int) < (j : Int) := by omega
              have hj1 : j - 1 < k := by omega
              have hjk : j < k := by omega
              have c1 := hcw j hjk
              have c2 := hcw (j - 1) hj1
              have f1 := hfw j hjk
              have f2 := hfw (j - 1) hj1
              have hjz1 : (j : Int) - 1 < (k : Int) := by omega
              have hjz2 : (0 : Int) ≤ (j : Int) - 1 := by omega
              have hjn : ((j : Int) - 1).toNat = j - 1 := by omega
              clear hcw hfw
              go_wp2_with fail
              go_quiet (fail)
              by_cases hl : G j < G (j - 1)
              · go_wp2
                go_roundw
                case rel =>
                  refine ⟨j - 1, m + nq, swp dj j (j - 1), by congr 1; omega, by omega, by rw [size_swp]; exact hsj, ?_, ?_⟩
                  · have e := putRow_swp encU (Sort.ahead V (m + nq)) w.heap.size 0 dj (j - 1) j (by omega) (by omega)
                    rw [swp_comm dj j (j - 1) (by omega) (by omega) (by omega), ← e, HW.out, HG.out, HG.out, putRow_drewN]
                    simp
                  · rw [← HI.out, insInner_go ltInt 0 j dj hj (by rw [← HG.out, ← HG.out]; exact decide_eq_true hl)]
                case measure => simp [intOf]; omega
              · go_wp2
                go_roundw
                case rel =>
                  exact ⟨i + 1, m + nq, dj, by go_num, by omega, by omega, hsj, by rw [HW.out, putRow_drewN], by
                    rw [← HO.out, insOuter_go _ _ _ _ _ hik, ← HI.out, insInner_stop _ _ _ _ (Or.inr (by rw [← HG.out, ← HG.out]; exact decide_eq_false hl))]⟩
                case measure => simp [intOf]; omega
            · have hjz : decide ((0 : Int) < (j : Int)) = false := decide_eq_false (by omega)
              clear hcw hfw
              go_wp2_with fail
              go_quiet (fail)
              go_wp2
              go_roundw
              case rel =>
                exact ⟨i + 1, m + nq, dj, by go_num, by omega, by omega, hsj, by rw [HW.out, putRow_drewN], by
                  rw [← HO.out, insOuter_go _ _ _ _ _ hik, ← HI.out, insInner_stop _ _ _ _ (Or.inl (by omega))]⟩
              case measure => simp [intOf]; omega
        · have HW2 : Hid (wr = putRow encU (Sort.ahead V n) w.heap.size 0 di) := hw2
          clear hw2
          go_wp2
          go_ret
          have hres : di = (srt (lst z k)).toArray := by
            have e := HO.out
            rw [insOuter_stop _ _ _ _ _ hik] at e
            rw [e, HD.out]
            have := insertionSort_srt (lst z k)
            unfold Sort.insertionSort at this
            simpa using this
          refine ⟨rfl, ?_, ?_, by rw [HW2.out, size_putRow]; exact HZ.out⟩
          · rw [HW2.out]
            have k2 : Kp (fun i => i = w.heap.size) V (putRow encU (Sort.ahead V n) w.heap.size 0 di) := Kp.putRow V n _ _ _ rfl
            exact HB.out.trans (k2.toBelow (Nat.le_of_lt HZ.out) (fun i hi he => by omega))
          · by_cases h0 : k = 0
            · subst h0; exact .inl (by simp [srt, lst])
            · refine .inr ⟨_, _, rfl, Nat.le_refl _, ?_, ?_⟩
              · rw [HW2.out, size_putRow]; exact HZ.out
              · rw [HW2.out, ← hres]
                exact holds_putRow encU _ _ 0 dk di (holds_ahead encU V n _ _ _ HH.out) (by omega)

set_option maxHeartbeats 1000000 in
/-- Two slices that hold one list: sameAs says yes; it only reads. -/
theorem sameAs_yes (p1 p2 : Option Addr) (c1 c2 : Nat) (d : List Int) (B1 B2 : Nat) (w : World) (hl : d.length ≤ 4096) (h1 : Row B1 w p1 d) (h2 : Row B2 w p2 d) :
    Calls Try.prog 16 #[.slice p1 d.length c1, .slice p2 d.length c2] w fun e w' => e = .returned (.bool true) ∧ ∃ n, w' = w.drewN n := by
  have hne : ((d.length : Int) != (d.length : Int)) = false := by simp
  generalize hn : d.length = n at *
  go_enter Try.func16, Try.ntmps16
  go_wp2
  go_loopw [5] (fun s5 wr => ∃ (k m : Nat), s5 = .int .i64 k ∧ k ≤ n ∧ wr = w.drewN m) (fun s5 _ => n - (intOf s5).toNat)
  case atStart => exact ⟨0, 0, rfl, Nat.zero_le _, rfl⟩
  case round =>
    obtain ⟨k, m, rfl, hk, rfl⟩ := hrel
    by_cases hlt : k < n
    · rcases h1 with h1 | ⟨b1, o1, rfl, _, _, hH1⟩
      · subst h1; simp at hn; omega
      rcases h2 with h2 | ⟨b2, o2, rfl, _, _, hH2⟩
      · subst h2; simp at hn; omega
      have k1 : w.cell? ⟨b1, o1 + k, none⟩ = some (.int .u32 d.toArray[k]!) := (hH1 k (by simp; omega)).1
      have k2 : w.cell? ⟨b2, o2 + k, none⟩ = some (.int .u32 d.toArray[k]!) := (hH2 k (by simp; omega)).1
      generalize d.toArray[k]! = x at k1 k2
      have hx : (x != x) = false := by simp
      clear hH1 hH2
      have HN : Hid (d.length = n) := hn
      clear hn
      go_wp2_with fail
      go_quiet (fail)
      go_wp2
      go_roundw
      case rel => exact ⟨k + 1, _, by go_num, by omega, rfl⟩
      case measure => simp [intOf]; omega
    · have HN : Hid (d.length = n) := hn
      clear hn h1 h2
      go_wp2
      go_ret
      exact ⟨rfl, m, rfl⟩
end Go.Proofs.Qxb6609273a
