/- The walk of 'FnNewNodeMembersSortedAtHeadOnly'. -/
import Derived.Test.Qxb6609273aNode
import Derived.Test.Qxb6609273aMembers
namespace Go.Proofs.Qxb6609273a
open Go.RowKit Go.Sort

set_option maxHeartbeats 400000 in
theorem bytes12 (x y : Int) (a : Option Addr) (l c : Nat) (w : World) (h : l ≤ maxLen) : Calls Try.prog 12 #[.int .u32 x, .int .u32 y, .slice a l c] w fun e w' => (∃ b, e = .returned (.bool b)) ∧ w' = w := by
  unfold maxLen at h
  go_enter Try.func12, Try.ntmps12
  go_wp2
  all_goals go_ret
  all_goals exact ⟨⟨_, rfl⟩, rfl⟩

/-- toNIDs of a slice that came in. -/
theorem toNIDs_any (a : Option Addr) (len c : Nat) (z : Nat → Int) (w : World) (hl : len ≤ 4096) (h : IsSeq .u32 w a len z) :
    Calls Try.prog 13 #[.slice a len c] w fun e w' => ∃ p cap, e = .returned (.slice p len cap) ∧ Row w.heap.size w' p (lst z len) ∧ (∀ k, inRow p k → w.heap.size ≤ k ∧ k < w'.heap.size) ∧ RowKit.Below w.heap.size w w' := by
  cases a with
  | none =>
    obtain rfl := h.2.1 rfl
    refine (toNIDs_nil 0 c w).mono ?_
    rintro e w' ⟨rfl, rfl⟩
    exact ⟨none, 0, rfl, .inl rfl, fun k hk => (by obtain ⟨_, h, _⟩ := hk; cases h), RowKit.Below.refl _ _⟩
  | some x =>
    refine (toNIDs_some x len c z w hl h).mono ?_
    rintro e w' ⟨rfl, hb, hr, hz⟩
    exact ⟨_, _, rfl, hr, fun k hk => (by obtain ⟨_, h, h2⟩ := hk; injection h with h; subst h; simp only at h2; omega), hb⟩

theorem newNode_lst (id head : Int) (p : Option Addr) (c len : Nat) (z : Nat → Int) (B : Nat) (w : World) (hl : len ≤ 4096) (h : Row B w p (lst z len)) :
    Calls Try.prog 14 #[.int .u32 id, .agg #[.int .u32 head, .slice p len c], .slice none 0 0] w fun e w' => ∃ nb, e = .returned (.pointer (some ⟨nb, 0, none⟩)) ∧ NodeOk w.heap.size w' nb id head (srt (lst z len)) 0 0 false ∧ RowKit.Below w.heap.size w w' := by
  have := newNode_any id head p c (lst z len) B w (by simpa using hl) h
  rwa [lst_length] at this

theorem nodeLen {B : Nat} {w : World} {nb : Nat} {id head : Int} {d : List Int} {ex hp : Int} {tp : Bool} (h : NodeOk B w nb id head d ex hp tp) :
    w.cell? ⟨nb, 0, none⟩ = some (.int .u32 id) ∧ w.cell? ⟨nb, 1, none⟩ = some (.int .u32 head) := by
  obtain ⟨h0, p, cap, ev, fb, hb, ab, h1, _⟩ := h
  exact ⟨cell_of_heap h1 rfl, cell_of_heap h1 rfl⟩

set_option maxHeartbeats 2000000 in
theorem walk4 (id head : Int) (a : Option Addr) (len c : Nat) (z : Nat → Int) (w : World) (h : IsSeq .u32 w a len z) :
    Calls Try.prog 4 #[.int .u32 id, .int .u32 head, .slice a len c] w fun e w' => e = .returned (.bool true) ∧ RowKit.Below w.heap.size w w' := by
  have hb := bytes12 id head a len c w h.1
  have hm := h.1
  unfold maxLen at hm
  by_cases hl : len ≤ 4096
  · have g0 : decide ((4096 : Int) < len) = false := decide_eq_false (by omega)
    have g2 : decide ((1048576 : Int) < 4 * (len : Int)) = false := decide_eq_false (by omega)
    have HT : Hid (Calls Try.prog 13 #[.slice a len c] w fun e w' => ∃ p cap, e = .returned (.slice p len cap) ∧ Row w.heap.size w' p (lst z len) ∧ (∀ k, inRow p k → w.heap.size ≤ k ∧ k < w'.heap.size) ∧ RowKit.Below w.heap.size w w') := toNIDs_any a len c z w hl h
    have HS : Hid (IsSeq .u32 w a len z) := h
    clear h
    go_enter Try.func4, Try.ntmps4
    go_wp2_with fail
    refine hb.mono ?_
    rintro e w' ⟨⟨bb, rfl⟩, hw⟩
    obtain rfl := hw
    clear hb
    cases bb
    · go_wp2_with fail
      go_ret
      exact ⟨rfl, RowKit.Below.refl _ _⟩
    · go_wp2_with fail
      refine HT.out.mono ?_
      rintro e w1 ⟨p, cap, rfl, hr, _, hb1⟩
      have HN := newNode_lst id head p cap len z _ w1 hl hr
      have HB1 : Hid (RowKit.Below w'.heap.size w' w1) := hb1
      clear hr hb1
      go_wp2_with fail
      refine HN.mono ?_
      rintro e w2 ⟨nb, rfl, hN, hb2⟩
      have HB2 : Hid (RowKit.Below w'.heap.size w' w2) := HB1.out.trans (hb2.mono HB1.out.size)
      have HNk : Hid (NodeOk w1.heap.size w2 nb id head (srt (lst z len)) 0 0 false) := hN
      clear HN hb2 hN
      by_cases hid : id = head
      · subst hid
        have he : (id != id) = false := by simp
        have HM : Hid (Calls Try.prog 15 #[.pointer (some ⟨nb, 0, none⟩)] w2 fun e w' => ∃ p cap, e = .returned (.slice p len cap) ∧ Row w2.heap.size w' p (srt (lst z len)) ∧ (∀ k, inRow p k → w2.heap.size ≤ k ∧ k < w'.heap.size) ∧ RowKit.Below w2.heap.size w2 w') := by
          have := members_head nb id (srt (lst z len)) _ 0 0 false w2 (by simpa using hl) HNk.out
          rwa [srt_length, lst_length] at this
        go_wp2_with fail
        refine HM.out.mono ?_
        rintro e w3 ⟨p3, cap3, rfl, hr3, hap3, hb3⟩
        have HB3 : Hid (RowKit.Below w'.heap.size w' w3) := HB2.out.trans (hb3.mono HB2.out.size)
        have HSC : Hid (Calls Try.prog 17 #[.slice a len c] w3 fun e w' => e = .returned (.slice (some ⟨w3.heap.size, 0, none⟩) len len) ∧ RowKit.Below w3.heap.size w3 w' ∧ Row w3.heap.size w' (some ⟨w3.heap.size, 0, none⟩) (srt (lst z len)) ∧ w3.heap.size < w'.heap.size) :=
          sortedCopy_any a len c z w3 hl (HS.out.kept HB3.out)
        have HR3 : Hid (Row w2.heap.size w3 p3 (srt (lst z len))) := hr3
        clear hr3 hap3 hb3
        go_wp2_with fail
        refine HSC.out.mono ?_
        rintro e w4 ⟨rfl, hb4, hr4, _⟩
        have HSA : Hid (Calls Try.prog 16 #[.slice p3 len cap3, .slice (some ⟨w3.heap.size, 0, none⟩) len len] w4 fun e w' => e = .returned (.bool true) ∧ ∃ n, w' = w4.drewN n) := by
          have := sameAs_yes p3 (some ⟨w3.heap.size, 0, none⟩) cap3 len (srt (lst z len)) _ _ w4 (by simpa using hl) (HR3.out.kept (Kp.ofBelow hb4) (fun _ _ x => x)) hr4
          rwa [srt_length, lst_length] at this
        have HB4 : Hid (RowKit.Below w'.heap.size w' w4) := HB3.out.trans (hb4.mono HB3.out.size)
        clear hb4 hr4
        go_wp2_with fail
        refine HSA.out.mono ?_
        rintro e w5 ⟨rfl, n5, rfl⟩
        go_wp2_with fail
        go_ret
        exact ⟨rfl, HB4.out.trans ((Kp.drewN noB w4 n5).toBelow HB4.out.size (fun _ _ x => x))⟩
      · have he : (id != head) = true := by simpa using hid
        have q := nil30
        have HM : Hid (Calls Try.prog 15 #[.pointer (some ⟨nb, 0, none⟩)] w2 fun e w' => e = .returned (.slice none 0 0) ∧ RowKit.Below w2.heap.size w2 w') :=
          members_nil nb id head w2 (fun e => hid e.symm) (nodeLen HNk.out).1 (nodeLen HNk.out).2
        go_wp2_with fail
        refine HM.out.mono ?_
        rintro e w3 ⟨rfl, hb3⟩
        have HB3 : Hid (RowKit.Below w'.heap.size w' w3) := HB2.out.trans (hb3.mono HB2.out.size)
        clear hb3
        go_wp2_with fail
        go_ret
        exact ⟨rfl, HB3.out⟩
  · have g0 : (4096 : Int) < len := by omega
    clear h
    go_enter Try.func4, Try.ntmps4
    go_wp2_with fail
    refine hb.mono ?_
    rintro e w' ⟨⟨bb, rfl⟩, hw⟩
    obtain rfl := hw
    clear hb
    cases bb
    all_goals
      go_wp2_with fail
      go_ret
      exact ⟨rfl, RowKit.Below.refl _ _⟩
end Go.Proofs.Qxb6609273a
