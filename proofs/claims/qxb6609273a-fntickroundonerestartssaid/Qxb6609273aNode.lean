/- NewNode: whatever order its first statement's operations come in, a node whose members are sorted. -/
import Derived.Test.Qxb6609273aNodeW
import Derived.Deep.RegionHeld3
import Derived.Deep.DrawnRows
import Derived.Deep.Cut
import Derived.Deep.CutRange
attribute [local go_sem ↓] Go.wp_at_zero Go.wp_at_succ
namespace Go.Proofs.Qxb6609273a
open Go.RowKit Go.Sort

/-- The end of each way through NewNode's first statement: the node is boxed. -/
theorem regionOut_new {id head : Int} {d : List Int} {w W : World} {nb : Nat} {p : Option Addr} {cap fb hb ab : Nat} (hnb : nb = W.heap.size)
    (f : W.heap[fb]? = some (.map #[] 0)) (h : W.heap[hb]? = some (.map #[] 0)) (a : W.heap[ab]? = some (.map #[] 0)) (bf : w.heap.size + 1 ≤ fb) (bh : w.heap.size + 1 ≤ hb) (ba : w.heap.size + 1 ≤ ab)
    (row : Row (w.heap.size + 1) W p d) (apart : ∀ k, inRow p k → w.heap.size + 1 ≤ k ∧ k < W.heap.size ∧ k ≠ fb ∧ k ≠ hb ∧ k ≠ ab) (kp : Kp noB w W)
    (cell : W.cell? ⟨w.heap.size, 0, none⟩ = some (.int .u32 head)) :
    RegionOut id head d w (.pointer (some ⟨nb, 0, none⟩)) (W.alloc (.cells (nodeC id head (.slice p d.length cap) (.slice none 0 0) fb hb ab 0 0 false) 72)) := by
  have k1 : Kp noB W (W.alloc (.cells (nodeC id head (.slice p d.length cap) (.slice none 0 0) fb hb ab 0 0 false) 72)) := Kp.alloc _ _ _
  refine ⟨nb, rfl, ⟨?_, p, cap, _, fb, hb, ab, heapAt_new hnb, heapAt_alloc f, heapAt_alloc h, heapAt_alloc a, bf, bh, ba, row.kept k1 (fun _ _ x => x), fun k hk => ?_⟩, kp.trans k1, ?_⟩
  · have := heap_lt f; omega
  · have := apart k hk; omega
  · rw [k1.cell (p := ⟨w.heap.size, 0, none⟩) (cell_lt cell) (fun x => x)]; exact cell

/-- The field 'expected' is stored. -/
theorem NodeOk.expect {B : Nat} {w : World} {nb : Nat} {id head : Int} {d : List Int} {ex hp : Int} {tp : Bool} (h : NodeOk B w nb id head d ex hp tp) (v : Value) : NodeOk B (w.setCell ⟨nb, 7, none⟩ v) nb id head d ex hp tp := by
  obtain ⟨h0, p, cap, ev, fb, hb, ab, h1, h2, h3, h4, b1, b2, b3, hr, hn⟩ := h
  have k : Kp (fun i => i = nb) w (w.setCell ⟨nb, 7, none⟩ v) := Kp.setCell _ _ _ rfl
  have nf : fb ≠ nb := fun e => by subst e; rw [h1] at h2; cases h2
  have nh : hb ≠ nb := fun e => by subst e; rw [h1] at h3; cases h3
  have na : ab ≠ nb := fun e => by subst e; rw [h1] at h4; cases h4
  exact ⟨h0, p, cap, v, fb, hb, ab, heap_set_same h1 v, k.heap h2 nf, k.heap h3 nh, k.heap h4 na, b1, b2, b3, hr.kept k (fun i hi => (hn i hi).2.1), hn⟩

set_option maxHeartbeats 40000000 in
set_option maxRecDepth 100000 in
theorem newNode_any (id head : Int) (p : Option Addr) (c : Nat) (d : List Int) (B : Nat) (w : World) (hl : d.length ≤ 4096) (h : Row B w p d) :
    Calls Try.prog 14 #[.int .u32 id, .agg #[.int .u32 head, .slice p d.length c], .slice none 0 0] w fun e w' => ∃ nb, e = .returned (.pointer (some ⟨nb, 0, none⟩)) ∧ NodeOk w.heap.size w' nb id head (srt d) 0 0 false ∧ RowKit.Below w.heap.size w w' := by
  have HC : Hid (∀ W, Kp noB w W → Calls Try.prog 28 #[.slice p d.length c] W fun e w' => ∃ p' cap, e = .returned (.slice p' d.length cap) ∧ Row W.heap.size w' p' d ∧ (∀ k, inRow p' k → W.heap.size ≤ k ∧ k < w'.heap.size) ∧ RowKit.Below W.heap.size W w') :=
    fun W k => clone_any p c d B W hl (h.kept k (fun _ _ x => x))
  have HL : Hid (d.length ≤ 4096) := hl
  clear h hl
  go_enter Try.func14, Try.ntmps14
  go_wp2_with fail
  go_cut [7] from 10 to 20 (fun s7 wx => RegionOut id head d w s7 wx)
  case first =>
    have hmm := @run_makeMap Try.prog
    go_region_held3 (fun w' => w'.cell? ⟨w.heap.size, 0, none⟩ = some (.int .u32 head) ∧ w'.cell? ⟨w.heap.size, 1, none⟩ = some (.slice p d.length c)) (first | go_keep | (show _ ∧ _; refine ⟨cell_of_heap (c := #[.int .u32 head, .slice p d.length c]) (t := 36) ?_ rfl, cell_of_heap (c := #[.int .u32 head, .slice p d.length c]) (t := 36) ?_ rfl⟩ <;> (repeat (first | (with_reducible refine heapAt_new ?_; (simp; done)) | with_reducible refine heapAt_alloc ?_ | with_reducible refine heapAt_drew ?_ | with_reducible refine heapAt_below hb ?_)))) (first | (go_at_call 28; refine (HC.out _ ?_).mono ?_; (repeat (first | with_reducible exact Kp.refl _ _ | with_reducible apply Kp.al | with_reducible apply Kp.dr)); rintro e w' ⟨p', cap, rfl, hr, hap, hb⟩))
    all_goals
      go_wp2_with fail
      go_meet
      show RegionOut id head d w _ _
      have hz := hb.size
      simp at hz
      with_reducible refine regionOut_new ?_ ?_ ?_ ?_ ?_ ?_ ?_ ?_ ?_ ?_ ?_
      · (first | omega | (simp; done) | (simp; omega))
      · (repeat (first | (with_reducible refine heapAt_new ?_; (simp; done)) | with_reducible refine heapAt_alloc ?_ | with_reducible refine heapAt_drew ?_ | with_reducible refine heapAt_below hb ?_))
      · (repeat (first | (with_reducible refine heapAt_new ?_; (simp; done)) | with_reducible refine heapAt_alloc ?_ | with_reducible refine heapAt_drew ?_ | with_reducible refine heapAt_below hb ?_))
      · (repeat (first | (with_reducible refine heapAt_new ?_; (simp; done)) | with_reducible refine heapAt_alloc ?_ | with_reducible refine heapAt_drew ?_ | with_reducible refine heapAt_below hb ?_))
      · (first | omega | (simp; done) | (simp; omega))
      · (first | omega | (simp; done) | (simp; omega))
      · (first | omega | (simp; done) | (simp; omega))
      · exact (hr.mono (by first | (simp; done) | (simp; omega))).kept (S := noB) (by (repeat (first | with_reducible exact Kp.refl _ _ | with_reducible apply Kp.al | with_reducible apply Kp.dr | with_reducible refine Kp.bl ?_ hb))) (fun _ _ x => x)
      · intro k hk
        have hh := hap k hk
        simp at hh
        refine ⟨?_, ?_, ?_, ?_, ?_⟩ <;> first | omega | (simp; omega)
      · (repeat (first | with_reducible exact Kp.refl _ _ | with_reducible apply Kp.al | with_reducible apply Kp.dr | with_reducible refine Kp.bl ?_ hb))
      · refine cell_of_heap (c := #[.int .u32 head, .slice p d.length c]) (t := 36) ?_ rfl
        (repeat (first | (with_reducible refine heapAt_new ?_; (simp; done)) | with_reducible refine heapAt_alloc ?_ | with_reducible refine heapAt_drew ?_ | with_reducible refine heapAt_below hb ?_))
  case rest =>
    obtain ⟨nb, rfl, hN, hk, hbox⟩ := hcut
    obtain ⟨h0, p1, cap1, ev, fb, hb, ab, h1, h2, h3, h4, b1, b2, b3, hr, hn⟩ := hN
    have c2 : wc.cell? ⟨nb, 2, none⟩ = some (.slice p1 d.length cap1) := cell_of_heap h1 rfl
    have hs := sort_row p1 cap1 d (w.heap.size + 1) wc HL.out hr
    go_wp2_with fail
    refine hs.mono ?_
    rintro e w2 ⟨rfl, hr2, hk2⟩
    have hN2 : NodeOk (w.heap.size + 1) w2 nb id head (srt d) 0 0 false := NodeOk.sorted h0 h1 h2 h3 h4 b1 b2 b3 hn hr2 hk2
    have hzw : w.heap.size < wc.heap.size := cell_lt hbox
    have hbox2 : w2.cell? ⟨w.heap.size, 0, none⟩ = some (.int .u32 head) := by
      rw [hk2.cell (p := ⟨w.heap.size, 0, none⟩) hzw (fun x => by have := (hn _ x).1; simp at this; omega)]; exact hbox
    have hB2 : RowKit.Below w.heap.size w w2 := (hk.toBelow (Nat.le_refl _) (fun _ _ x => x)).trans (hk2.toBelow (by omega) (fun i hi x => by have := (hn _ x).1; omega))
    have HB2 : Hid (RowKit.Below w.heap.size w w2) := hB2
    have HN2 : Hid (NodeOk (w.heap.size + 1) w2 nb id head (srt d) 0 0 false) := hN2
    clear hs hN2 hB2 hr2 hk2 h1 h2 h3 h4 hr hn hbox c2 hk
    by_cases hid : id = head
    · have he : (id == head) = true := beq_iff_eq.2 hid
      obtain ⟨h0, p2, cap2, ev2, fb2, hb2, ab2, h1, h2, h3, h4, b1, b2, b3, hr, hn⟩ := HN2.out
      have c2 : w2.cell? ⟨nb, 2, none⟩ = some (.slice p2 d.length cap2) := by rw [← srt_length d]; exact cell_of_heap h1 rfl
      have c7 : w2.cell? ⟨nb, 7, none⟩ = some ev2 := cell_of_heap h1 rfl
      have f7 : w2.frozen? ⟨nb, 7, none⟩ = false := frozen_of_heap h1
      have hcl := clone_any p2 cap2 (srt d) (w.heap.size + 1) w2 (by rw [srt_length]; exact HL.out) hr
      rw [srt_length] at hcl
      have HCL : Hid (Calls Try.prog 28 #[.slice p2 d.length cap2] w2 fun e w' => ∃ p' cap, e = .returned (.slice p' d.length cap) ∧ Row w2.heap.size w' p' (srt d) ∧ (∀ k, inRow p' k → w2.heap.size ≤ k ∧ k < w'.heap.size) ∧ RowKit.Below w2.heap.size w2 w') := hcl
      have HID : Hid (id = head) := hid
      clear hcl hid h1 h2 h3 h4 hr hn b1 b2 b3 h0
      go_wp2_with fail
      refine HCL.out.mono ?_
      rintro e w3 ⟨p3, cap3, rfl, hr3, hap3, hb3⟩
      have hlt : nb < w2.heap.size := cell_lt c7
      have c7' : w3.cell? ⟨nb, 7, none⟩ = some ev2 := by rw [hb3.cell (p := ⟨nb, 7, none⟩) hlt]; exact c7
      have f7' : w3.frozen? ⟨nb, 7, none⟩ = false := by rw [hb3.frozen (p := ⟨nb, 7, none⟩) hlt]; exact f7
      have HN3 : Hid (NodeOk (w.heap.size + 1) w3 nb id head (srt d) 0 0 false) := HN2.out.kept (Kp.ofBelow hb3) (fun _ x => x.elim)
      have HB3 : Hid (RowKit.Below w.heap.size w w3) := HB2.out.trans (hb3.mono (by have := HB2.out.size; omega))
      clear hr3 hap3 hb3 c7 f7 c2 hbox2
      go_wp2_with fail
      refine wp_loop_rounds 1 ?_
      rw [rounds_succ]
      go_wp2_with fail
      go_ret
      have h0 := HN3.out.1
      exact ⟨nb, rfl, (HN3.out.expect _).mono (Nat.le_succ _), HB3.out.setCell (by simp; omega) _⟩
    · have he : (id == head) = false := beq_eq_false_iff_ne.2 hid
      go_wp2_with fail
      refine wp_loop_rounds 1 ?_
      rw [rounds_succ]
      go_wp2_with fail
      go_ret
      exact ⟨nb, rfl, HN2.out.mono (Nat.le_succ _), HB2.out⟩
end Go.Proofs.Qxb6609273a
