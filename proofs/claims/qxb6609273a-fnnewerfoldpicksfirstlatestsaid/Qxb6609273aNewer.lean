/- The walks on the road of 'FnNewerFoldPicksFirstLatest'. -/
import Derived.Test.Qxb6609273aBase
import Derived.Shelf.SlSortCmp.QuietGrown
import Derived.BigQuiet
namespace Go.Proofs.Qxb6609273a
open Go.RowKit Go.Sort

set_option maxHeartbeats 400000 in
theorem bytes9 (a0 : Option Addr) (l0 c0 : Nat) (a1 : Option Addr) (l1 c1 : Nat) (w : World) (h0 : l0 ≤ maxLen) (h1 : l1 ≤ maxLen) :
    Calls Try.prog 9 #[.slice a0 l0 c0, .slice a1 l1 c1] w fun e w' => (∃ b, e = .returned (.bool b)) ∧ w' = w := by
  unfold maxLen at h0 h1
  go_enter Try.func9, Try.ntmps9
  go_wp2
  all_goals go_ret
  all_goals exact ⟨⟨_, rfl⟩, rfl⟩

theorem alloc2 (w : World) (a b : Obj) : ∃ os, (w.alloc a).alloc b = grow w os := ⟨#[a] ++ #[b], by rw [alloc_eq_grow, alloc_eq_grow, grow_grow]⟩

set_option maxHeartbeats 400000 in
theorem newer27 (c0 : Bool) (c1 : Int) (d0 : Bool) (d1 : Int) (w : World) :
    Calls Try.prog 27 #[.agg #[.bool c0, .int .i64 c1], .agg #[.bool d0, .int .i64 d1]] w fun e w' => e = .returned (.bool (decide (d1 < c1))) ∧ ∃ os, w' = grow w os := by
  go_enter Try.func27, Try.ntmps27
  go_wp2
  go_ret
  exact ⟨rfl, alloc2 _ _ _⟩

set_option maxHeartbeats 400000 in
theorem newer10 (c0 : Bool) (c1 : Int) (d0 : Bool) (d1 : Int) (w : World) :
    Calls Try.prog 10 #[.bool c0, .int .i64 c1, .bool d0, .int .i64 d1] w fun e w' => e = .returned (.bool (decide (d1 < c1))) ∧ ∃ os, w' = grow w os := by
  go_enter Try.func10, Try.ntmps10
  go_wp2_with fail
  refine (newer27 _ _ _ _ _).mono ?_
  rintro e w' ⟨rfl, os, rfl⟩
  go_wp2_with fail
  go_ret
  exact ⟨rfl, os, rfl⟩

/-- What failAt answers. -/
def failB (F : Nat → Bool) (len i : Nat) : Bool := if i < len then F i else false

set_option maxHeartbeats 400000 in
theorem failAt11 (a : Option Addr) (len cap : Nat) (F : Nat → Bool) (i : Nat) (hi : i < 4611686018427387904) (w : World) (h : IsBools w a len F) :
    Calls Try.prog 11 #[.slice a len cap, .int .i64 i] w fun e w' => e = .returned (.bool (failB F len i)) ∧ w' = w := by
  obtain ⟨hm, h⟩ := h
  unfold maxLen at hm
  unfold failB
  by_cases hl : i < len
  · rcases h with h | ⟨b, off, rfl, hb, hc⟩
    · omega
    · have hci := hc i hl
      rw [if_pos hl]
      clear hc
      go_enter Try.func11, Try.ntmps11
      go_wp2
      go_ret
      exact ⟨rfl, rfl⟩
  · rw [if_neg hl]
    clear h
    go_enter Try.func11, Try.ntmps11
    go_wp2
    go_ret
    exact ⟨rfl, rfl⟩

theorem failAt11g (a : Option Addr) (len cap : Nat) (F : Nat → Bool) (i : Nat) (hi : i < 4611686018427387904) (w : World) (h : IsBools w a len F) :
    Calls Try.prog 11 #[.slice a len cap, .int .i64 i] w fun e w' => e = .returned (.bool (failB F len i)) ∧ ∃ q os', w' = grow (w.drewN q) os' :=
  (failAt11 a len cap F i hi w h).mono fun _ _ ⟨he, hw⟩ => ⟨he, 0, #[], by rw [hw, grow_empty]; rfl⟩
theorem newer10g (c0 : Bool) (c1 : Int) (d0 : Bool) (d1 : Int) (w : World) :
    Calls Try.prog 10 #[.bool c0, .int .i64 c1, .bool d0, .int .i64 d1] w fun e w' => e = .returned (.bool (decide (d1 < c1))) ∧ ∃ q os', w' = grow (w.drewN q) os' :=
  (newer10 c0 c1 d0 d1 w).mono fun _ _ ⟨he, os, hw⟩ => ⟨he, 0, os, hw⟩

theorem bools_grow {w : World} {a : Option Addr} {len : Nat} {F : Nat → Bool} (h : IsBools w a len F) (n : Nat) (os : Array Obj) : IsBools (grow (w.drewN n) os) a len F := by
  obtain ⟨hm, h⟩ := h
  refine ⟨hm, ?_⟩
  rcases h with h | ⟨b, off, rfl, hb, hc⟩
  · exact .inl h
  · exact .inr ⟨b, off, rfl, by simp; omega, fun i hi => cell_grown hb (hc i hi) n os⟩

theorem grow_more (w : World) (n : Nat) (os : Array Obj) (m : Nat) (os' : Array Obj) : grow ((grow (w.drewN n) os).drewN m) os' = grow (w.drewN (n + m)) (os ++ os') := by
  show grow (grow ((w.drewN n).drewN m) os) os' = _
  rw [grow_grow, World.drewN_drewN]

theorem grow_below (w : World) (n : Nat) (os : Array Obj) : Below w.heap.size w (grow (w.drewN n) os) :=
  ⟨rfl, rfl, rfl, by simp, fun k hk => heap_grow_old (w.drewN n) os hk⟩

/-- The fold's relation: b is the first place of the greatest number among the first k. -/
def Best (z : Nat → Int) (k b : Nat) : Prop := b < k ∧ (∀ j, j < k → z j ≤ z b) ∧ ∀ j, j < b → z j < z b
theorem Best.start (z : Nat → Int) : Best z 1 0 := ⟨by omega, fun j hj => (by obtain rfl : j = 0 := (by omega); exact Int.le_refl _), fun j hj => (by omega)⟩
theorem Best.take {z : Nat → Int} {k b : Nat} (h : Best z k b) (hl : z b < z k) : Best z (k + 1) k := by
  obtain ⟨h1, h2, h3⟩ := h
  refine ⟨by omega, fun j hj => ?_, fun j hj => ?_⟩
  · by_cases e : j = k
    · subst e; exact Int.le_refl _
    · have := h2 j (by omega); omega
  · have := h2 j hj; omega
theorem Best.keep {z : Nat → Int} {k b : Nat} (h : Best z k b) (hl : ¬ z b < z k) : Best z (k + 1) b := by
  obtain ⟨h1, h2, h3⟩ := h
  refine ⟨by omega, fun j hj => ?_, h3⟩
  by_cases e : j = k
  · subst e; omega
  · exact h2 j (by omega)

set_option maxHeartbeats 1000000 in
theorem walk3_go (b off l0 c0 : Nat) (z : Nat → Int) (a1 : Option Addr) (l1 c1 : Nat) (F : Nat → Bool) (w : World) (hb : b < w.heap.size) (hl : 1 ≤ l0) (hl' : l0 ≤ 4096) (hl1 : l1 ≤ 4096)
    (hc : ∀ i, i < l0 → w.cell? ⟨b, off + i, none⟩ = some (.int .i64 (z i))) (h1 : IsBools w a1 l1 F) :
    Calls Try.prog 3 #[.slice (some ⟨b, off, none⟩) l0 c0, .slice a1 l1 c1] w fun e w' => e = .returned (.bool true) ∧ Below w.heap.size w w' := by
  have mx := mixed
  have hne : ((l0 : Int) == 0) = false := beq_eq_false_iff_ne.2 (by omega)
  have g0 : decide ((4096 : Int) < l0) = false := decide_eq_false (by omega)
  have g1 : decide ((4096 : Int) < l1) = false := decide_eq_false (by omega)
  have g2 : decide ((1048576 : Int) < 8 * (l0 : Int) + l1) = false := decide_eq_false (by omega)
  go_enter Try.func3, Try.ntmps3
  go_wp2_with fail
  refine (bytes9 _ _ _ _ _ _ _ (by unfold maxLen; omega) (by unfold maxLen; omega)).mono ?_
  rintro e w' ⟨⟨bb, rfl⟩, rfl⟩
  cases bb
  · go_wp2_with fail
    go_ret
    exact ⟨rfl, Below.refl _ _⟩
  · go_wp2_with fail
    go_loopw [5, 6] (fun s5 s6 wr => ∃ (k bs n : Nat) (os : Array Obj), s5 = .int .i64 bs ∧ s6 = .int .i64 k ∧ k ≤ l0 ∧ Best z k bs ∧ wr = grow (w'.drewN n) os) (fun _ s6 _ => l0 - (intOf s6).toNat)
    case atStart => exact ⟨1, 0, 0, #[], rfl, rfl, hl, Best.start z, by rw [grow_empty]; rfl⟩
    case round =>
      obtain ⟨k, bs, n, os, rfl, rfl, hk, hB, hwr⟩ := hrel
      have hbk : bs < k := hB.1
      have HB : Hid (Best z k bs) := hB
      have HW : Hid (wr = grow (w'.drewN n) os) := hwr
      have hbr : b < wr.heap.size := by rw [hwr]; simp; omega
      have hcr : ∀ i, i < l0 → wr.cell? ⟨b, off + i, none⟩ = some (.int .i64 (z i)) := fun i hi => by rw [hwr]; exact cell_grown hb (hc i hi) n os
      have hFr : IsBools wr a1 l1 F := by rw [hwr]; exact bools_grow h1 n os
      clear hB hwr hc h1
      by_cases hlt : k < l0
      · have hck : ∀ n os, (grow (wr.drewN n) os).cell? ⟨b, off + k, none⟩ = some (.int .i64 (z k)) := fun n os => cell_grown hbr (hcr k hlt) n os
        have hcb : ∀ n os, (grow (wr.drewN n) os).cell? ⟨b, off + bs, none⟩ = some (.int .i64 (z bs)) := fun n os => cell_grown hbr (hcr bs (by omega)) n os
        have HC : Hid (∀ i, i < l0 → wr.cell? ⟨b, off + i, none⟩ = some (.int .i64 (z i))) := hcr
        have HF : Hid (IsBools wr a1 l1 F) := hFr
        clear hcr hFr
        have hbz : (bs : Int) < (l0 : Int) := by omega
        have hbz0 : bs < l0 := by omega
        go_wp2_with fail
        go_quiet_grown (first | (go_at_call 11; refine Calls.grown_of (failAt11g _ _ _ _ _ (by omega) _ (bools_grow HF.out _ _))) | (go_at_call 10; refine Calls.grown_of (newer10g _ _ _ _ _)))
        go_wp2_with fail
        · -- newer: it is taken
          have hz : z bs < z k := by assumption
          go_roundw
          case rel => exact ⟨k + 1, k, n + nq, os ++ osq, by go_num, by go_num, by omega, HB.out.take hz, by rw [HW.out, grow_more]⟩
          case measure => simp [intOf]; omega
        · have hz : ¬ z bs < z k := by omega
          go_roundw
          case rel => exact ⟨k + 1, bs, n + nq, os ++ osq, by go_num, by go_num, by omega, HB.out.keep hz, by rw [HW.out, grow_more]⟩
          case measure => simp [intOf]; omega
      · obtain rfl : k = l0 := by omega
        have HC : Hid (∀ i, i < k → wr.cell? ⟨b, off + i, none⟩ = some (.int .i64 (z i))) := hcr
        clear hcr hFr
        go_wp2_with fail
        go_loopw [7] (fun s7 wr2 => ∃ (t m : Nat), s7 = .int .i64 t ∧ t ≤ k ∧ wr2 = wr.drewN m) (fun s7 _ => k - (intOf s7).toNat)
        case atStart => exact ⟨0, 0, rfl, Nat.zero_le _, rfl⟩
        case round =>
          obtain ⟨t, m, rfl, ht, hwr2⟩ := hrel
          subst hwr2
          by_cases hlt2 : t < k
          · have hct : wr.cell? ⟨b, off + t, none⟩ = some (.int .i64 (z t)) := HC.out t hlt2
            have hcb : wr.cell? ⟨b, off + bs, none⟩ = some (.int .i64 (z bs)) := HC.out bs hbk
            have hbz : (bs : Int) < (k : Int) := by omega
            have hle : z t ≤ z bs := HB.out.2.1 t hlt2
            go_wp2_with fail
            go_quiet (fail)
            by_cases hg : t < bs
            · have hgz : (t : Int) < (bs : Int) := by omega
              have hne2 : (z t == z bs) = false := beq_eq_false_iff_ne.2 (by have := HB.out.2.2 t hg; omega)
              go_wp2_with fail
              go_quiet (fail)
              go_wp2_with fail
              go_roundw
              case rel => exact ⟨t + 1, _, by go_num, by omega, rfl⟩
              case measure => simp [intOf]; omega
            · have hgz : decide ((t : Int) < (bs : Int)) = false := decide_eq_false (by omega)
              go_wp2_with fail
              go_quiet (fail)
              go_wp2_with fail
              go_roundw
              case rel => exact ⟨t + 1, _, by go_num, by omega, rfl⟩
              case measure => simp [intOf]; omega
          · go_wp2_with fail
            go_ret
            refine ⟨rfl, ?_⟩
            rw [HW.out]
            have := grow_below w' (n + m) (os ++ #[])
            rw [← grow_more, grow_empty] at this
            exact this

set_option maxHeartbeats 1000000 in
theorem walk3 (a0 : Option Addr) (l0 c0 : Nat) (z : Nat → Int) (a1 : Option Addr) (l1 c1 : Nat) (F : Nat → Bool) (w : World) (h0 : IsSeq .i64 w a0 l0 z) (h1 : IsBools w a1 l1 F) :
    Calls Try.prog 3 #[.slice a0 l0 c0, .slice a1 l1 c1] w fun e w' => e = .returned (.bool true) ∧ Below w.heap.size w w' := by
  obtain ⟨m0, n0, hs⟩ := h0
  by_cases hg : 1 ≤ l0 ∧ l0 ≤ 4096 ∧ l1 ≤ 4096
  · rcases hs with hs | ⟨b, off, rfl, hb, hc⟩
    · omega
    · exact walk3_go b off l0 c0 z a1 l1 c1 F w hb hg.1 hg.2.1 hg.2.2 (fun i hi => (hc i hi).1) h1
  · obtain ⟨m1, _⟩ := h1
    clear hs n0
    unfold maxLen at m0 m1
    have hb9 := bytes9 a0 l0 c0 a1 l1 c1 w m0 m1
    by_cases e0 : (4096 : Int) < l0
    · go_enter Try.func3, Try.ntmps3
      go_wp2_with fail
      refine hb9.mono ?_
      rintro e w' ⟨⟨bb, rfl⟩, rfl⟩
      clear hb9
      cases bb
      all_goals
        go_wp2_with fail
        go_ret
        exact ⟨rfl, Below.refl _ _⟩
    · by_cases e1 : (4096 : Int) < l1
      · go_enter Try.func3, Try.ntmps3
        go_wp2_with fail
        refine hb9.mono ?_
        rintro e w' ⟨⟨bb, rfl⟩, rfl⟩
        clear hb9
        cases bb
        all_goals
          go_wp2_with fail
          go_ret
          exact ⟨rfl, Below.refl _ _⟩
      · have e2 : ((l0 : Int) == 0) = true := beq_iff_eq.2 (by omega)
        go_enter Try.func3, Try.ntmps3
        go_wp2_with fail
        refine hb9.mono ?_
        rintro e w' ⟨⟨bb, rfl⟩, rfl⟩
        clear hb9
        cases bb
        all_goals
          go_wp2_with fail
          all_goals go_ret
          all_goals exact ⟨rfl, Below.refl _ _⟩
end Go.Proofs.Qxb6609273a
