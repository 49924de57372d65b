/- slices.Sorted(maps.Keys(m)) at a map that holds nothing: nil; nothing that lay has turned. -/
import Derived.Test.Qxb6609273aNodeW
import Derived.RangeFuncNested
import Derived.RangeFuncBound
import Derived.RangeFuncCalls
import Derived.RangeFuncLeaves
import Derived.RangeFuncFrom
import Derived.Shelf.Abstract
import Derived.Shelf.RegionOpen
import Derived.OwnWalkIn
import Derived.TacticsInMore
import Derived.LoopNIn
import Derived.LoopIn
import Derived.Laws.IdiomRangeMap
namespace Go.Proofs.Qxb6609273a
open Go.RowKit Go.Sort Go.Shelf
attribute [local go_sem] Oper.semAt_some

theorem next_empty (w : World) (ty : TypeId) (mb : Nat) (h : w.heap[mb]? = some (.map #[] 0)) :
    (Instr.next (.pointer (some ⟨w.heap.size, 0, none⟩)) false ty).run Try.prog (w.alloc (.mapIter (some mb) 0 #[] 0)) = .ok (.tuple #[.bool false]) (w.alloc (.mapIter (some mb) 0 #[] 0)) := by
  rcases run_next_map (P := Try.prog) w ty mb 0 0 #[] #[] 0 h (fun x hx => by simp at hx) (Nat.le_refl _) with ⟨_, h2⟩ | ⟨e, he, _⟩
  · exact h2
  · simp [leftOf] at he

set_option maxRecDepth 100000 in
set_option maxHeartbeats 1000000 in
theorem keys43_in (F : Fence) (n : Nat) (hf : F.fn 43) (hro : F.round = none) (l Bm mb : Nat) (J : List Int → World → Prop) (W : World) (hJ : AbidesFrom W.heap.size J)
    (hm : W.cell? ⟨Bm, 0, none⟩ = some (.map (some mb))) (hmap : W.heap[mb]? = some (.map #[] 0)) (h0 : J [] W) :
    CallsIn F n Try.prog 43 #[.func (.yield l) #[] #[], .pointer (some ⟨Bm, 0, none⟩)] W fun e W' => (∃ v, e = .returned v) ∧ J [] W' := by
  refine callsIn_of_wp Try.func43 rfl hf ?_ hro
  simp only [Try.ntmps43, List.size_toArray, List.length_cons, List.length_nil, Nat.reduceAdd, Nat.reduceSub, Array.replicate_succ, Array.replicate_zero, List.push_toArray, List.append_toArray, List.nil_append, List.cons_append]
  have hrg := run_range_map (P := Try.prog) W 58 34 4 mb #[] 0 Try.underlying58 hmap
  have hnx : ∀ ty, (Instr.next (.pointer (some ⟨W.heap.size, 0, none⟩)) false ty).run Try.prog (W.alloc (.mapIter (some mb) 0 #[] 0)) = .ok (.tuple #[.bool false]) (W.alloc (.mapIter (some mb) 0 #[] 0)) := fun ty => next_empty W ty mb hmap
  clear hmap
  gi_wp2
  refine wpIn_loop_rounds 1 ?_
  rw [roundsIn_succ]
  gi_wp2
  go_end0
  exact ⟨⟨_, rfl⟩, hJ [] W _ none h0 (World.grownBy_alloc W _ none) (fun r e => by cases e)⟩

theorem keys43_stops (F : Fence) (n : Nat) (hf : F.fn 43) (hro : F.round = none) (Bm mb : Nat) (w : World) (hm : w.cell? ⟨Bm, 0, none⟩ = some (.map (some mb))) (hmap : w.heap[mb]? = some (.map #[] 0)) :
    SeqStops F n Try.prog 43 #[.pointer (some ⟨Bm, 0, none⟩)] encU (fun xs : List Int => xs = []) (fun _ => False) 0 w := fun l J _ W hW hJ _ _ h0 =>
  (keys43_in F n hf hro l Bm mb J W hJ ((hW.cell (p := ⟨Bm, 0, none⟩) (cell_lt hm)).trans hm) (heapAt_below hW hmap) h0).mono fun _ _ ⟨he, hj⟩ => ⟨he, .inl ⟨[], rfl, hj⟩⟩

set_option maxRecDepth 100000 in
set_option maxHeartbeats 2000000 in
theorem appendSeq63_in (F : Fence) (n : Nat) (h63 : F.fn 63) (h43 : F.fn 43) (hro : F.round = none) (hn : 3 ≤ n) (Bm mb : Nat) (w : World) (hm : w.cell? ⟨Bm, 0, none⟩ = some (.map (some mb))) (hmap : w.heap[mb]? = some (.map #[] 0)) :
    CallsIn F n Try.prog 63 #[.slice none 0 0, .func (.func 43) #[] #[.pointer (some ⟨Bm, 0, none⟩)]] w fun e W' => e = .returned (.slice none 0 0) ∧ RowKit.Below w.heap.size w W' := by
  have h1 : 1 ≤ n := by omega
  refine callsIn_of_wp_marks Try.func63 rfl h63 ?_ hro
  simp only [Try.ntmps63, List.size_toArray, List.length_cons, List.length_nil, Nat.reduceAdd, Nat.reduceSub, Array.replicate_succ, Array.replicate_zero, List.push_toArray, List.append_toArray, List.nil_append, List.cons_append]
  gi_wp2
  have hB0 : RowKit.Below w.heap.size w (w.alloc (.cells #[.slice none 0 0] 30)) := (RowKit.Below.refl _ w).alloc (Nat.le_refl _) _
  have hs : (w.alloc (.cells #[.slice none 0 0] 30)).cell? ⟨w.heap.size, 0, none⟩ = some (.slice none 0 0) := by rw [World.cell?_alloc_at _ _ _ _ rfl]; rfl
  have hf0 : (w.alloc (.cells #[.slice none 0 0] 30)).frozen? ⟨w.heap.size, 0, none⟩ = false := World.frozen?_alloc_at _ _ _ _ rfl
  refine wpIn_rangeFunc_ownF hro h1 (gf := 43) (lb := #[.pointer (some ⟨Bm, 0, none⟩)]) rfl h43 (enters_of Try.func43 (by kernel_rfl) rfl)
    (keys43_stops F (n - 1) h43 hro Bm mb (w.alloc (.cells #[.slice none 0 0] 30)) ((hB0.cell (p := ⟨Bm, 0, none⟩) (cell_lt hm)).trans hm) (heapAt_alloc hmap)) walksK_t walksK_b (RowKit.Below.refl _ _) (fun _ => rfl)
    (fun _ W => (W.cell? ⟨w.heap.size, 0, none⟩ = some (.slice none 0 0) ∧ W.frozen? ⟨w.heap.size, 0, none⟩ = false) ∧ RowKit.Below w.heap.size w W)
    (fun _ _ _ => False)
    (OwnFrom.and (Own.from (fun s A B row hs hg hr => ⟨cell_kept hs.1 hg hr, (frozen_kept hs.1 hg hr).trans hs.2⟩) _) (ownFrom_below (Nat.le_refl _) (by simp)))
    (fun _ _ _ _ _ hs _ _ => hs)
    ⟨⟨hs, hf0⟩, hB0⟩
    (fun x => { tmps := #[.slice none 0 0, .func (.func 43) #[] #[.pointer (some ⟨Bm, 0, none⟩)], .pointer (some ⟨w.heap.size, 0, none⟩), undef, .slice none 0 0, encU x, .func (.func 43) #[] #[.pointer (some ⟨Bm, 0, none⟩)], encU x, undef, undef, undef, undef, undef], defers := [] }) ?assign ?body ?done ?stop
  case assign =>
    intro l x W K hK
    gi_wp2
    exact hK
  case body =>
    rintro l pre x W _ h
    exact absurd h (Nat.not_lt_zero _)
  case done =>
    rintro D ys W hD _ ⟨⟨hc, _⟩, hB⟩ hK
    gi_wp2
    refine ⟨by simp, .inl ⟨_, _, rfl, run_takeDeferred hK, ?_⟩⟩
    exact ⟨_, results_tmp rfl _ _ _, rfl, hB.trans (belowK_b (w := w) (Nat.le_refl _) W D _ _ (by simp at hD; omega) hK rfl rfl)⟩
  case stop =>
    rintro D c pre W _ h _ _
    exact h.elim

theorem appendSeq63 (Bm mb : Nat) (w : World) (hm : w.cell? ⟨Bm, 0, none⟩ = some (.map (some mb))) (hmap : w.heap[mb]? = some (.map #[] 0)) :
    Calls Try.prog 63 #[.slice none 0 0, .func (.func 43) #[] #[.pointer (some ⟨Bm, 0, none⟩)]] w fun e W' => e = .returned (.slice none 0 0) ∧ RowKit.Below w.heap.size w W' :=
  (callsIn_wide (n := 3)).1 (appendSeq63_in Fence.wide 3 trivial trivial rfl (Nat.le_refl _) Bm mb w hm hmap)

set_option maxHeartbeats 400000 in
theorem collect42 (Bm mb : Nat) (w : World) (hm : w.cell? ⟨Bm, 0, none⟩ = some (.map (some mb))) (hmap : w.heap[mb]? = some (.map #[] 0)) :
    Calls Try.prog 42 #[.func (.func 43) #[] #[.pointer (some ⟨Bm, 0, none⟩)]] w fun e W' => e = .returned (.slice none 0 0) ∧ RowKit.Below w.heap.size w W' := by
  have HA : Hid (Calls Try.prog 63 #[.slice none 0 0, .func (.func 43) #[] #[.pointer (some ⟨Bm, 0, none⟩)]] w fun e W' => e = .returned (.slice none 0 0) ∧ RowKit.Below w.heap.size w W') := appendSeq63 Bm mb w hm hmap
  clear hm hmap
  go_enter Try.func42, Try.ntmps42
  go_wp2_with fail
  refine HA.out.mono ?_
  rintro e w' ⟨rfl, hb⟩
  go_wp2_with fail
  go_ret
  exact ⟨rfl, hb⟩

set_option maxHeartbeats 400000 in
theorem sorted32 (Bm mb : Nat) (w : World) (hm : w.cell? ⟨Bm, 0, none⟩ = some (.map (some mb))) (hmap : w.heap[mb]? = some (.map #[] 0)) :
    Calls Try.prog 32 #[.func (.func 43) #[] #[.pointer (some ⟨Bm, 0, none⟩)]] w fun e W' => e = .returned (.slice none 0 0) ∧ RowKit.Below w.heap.size w W' := by
  have HA : Hid (Calls Try.prog 42 #[.func (.func 43) #[] #[.pointer (some ⟨Bm, 0, none⟩)]] w fun e W' => e = .returned (.slice none 0 0) ∧ RowKit.Below w.heap.size w W') := collect42 Bm mb w hm hmap
  clear hm hmap
  go_enter Try.func32, Try.ntmps32
  go_wp2_with fail
  refine HA.out.mono ?_
  rintro e w' ⟨rfl, hb⟩
  go_wp2_with fail
  refine (Srt.Sort_u_nil none 0 w').mono ?_
  rintro e w2 ⟨rfl, rfl⟩
  go_wp2_with fail
  go_ret
  exact ⟨rfl, hb⟩

set_option maxHeartbeats 400000 in
theorem keys33 (mb : Nat) (w : World) :
    Calls Try.prog 33 #[.map (some mb)] w fun e W' => e = .returned (.func (.func 43) #[] #[.pointer (some ⟨w.heap.size, 0, none⟩)]) ∧ W' = w.alloc (.cells #[.map (some mb)] 58) := by
  go_enter Try.func33, Try.ntmps33
  go_wp2
  go_ret
  exact ⟨rfl, rfl⟩
end Go.Proofs.Qxb6609273a
