/- The walk of 'FnTakesUpdateRuleKeptOverTicks'. -/
import Derived.Test.Qxb6609273aAnswer
import Derived.Test.Qxb6609273aLaw4
import Derived.Test.Qxb6609273aTakesUp
import Derived.Deep.RegionHeld3
import Derived.Deep.DrawnRows
attribute [local go_sem ↓] Go.wp_at_zero Go.wp_at_succ
namespace Go.Proofs.Qxb6609273a
open Go.RowKit Go.Sort

set_option maxHeartbeats 1000000 in
theorem bytes24 (x y : Int) (a2 : Option Addr) (l2 c2 : Nat) (a3 : Option Addr) (l3 c3 : Nat) (a4 : Option Addr) (l4 c4 : Nat) (v : Int) (w : World) (h2 : l2 ≤ maxLen) (h3 : l3 ≤ maxLen) (h4 : l4 ≤ maxLen) :
    Calls Try.prog 24 #[.int .u32 x, .int .u32 y, .slice a2 l2 c2, .slice a3 l3 c3, .slice a4 l4 c4, .int .u32 v] w fun e w' => (∃ b, e = .returned (.bool b)) ∧ w' = w := by
  unfold maxLen at h2 h3 h4
  go_enter Try.func24, Try.ntmps24
  go_wp2
  all_goals go_ret
  all_goals exact ⟨⟨_, rfl⟩, rfl⟩

theorem nodeDep {B : Nat} {w : World} {nb : Nat} {id head : Int} {d : List Int} {ex hp : Int} {tp : Bool} (h : NodeOk B w nb id head d ex hp tp) : w.cell? ⟨nb, 3, none⟩ = some (.slice none 0 0) := by
  obtain ⟨h0, p, cap, ev, fb, hb, ab, h1, _⟩ := h
  exact cell_of_heap h1 rfl

set_option maxHeartbeats 8000000 in
set_option maxRecDepth 100000 in
theorem walk7 (id head : Int) (a2 : Option Addr) (l2 c2 : Nat) (z2 : Nat → Int) (a3 : Option Addr) (l3 c3 : Nat) (z3 : Nat → Int) (a4 : Option Addr) (l4 c4 : Nat) (z4 : Nat → Int) (v : Int) (w : World)
    (h2 : IsSeq .u32 w a2 l2 z2) (h3 : IsSeq .i64 w a3 l3 z3) (h4 : IsSeq .i64 w a4 l4 z4) :
    Calls Try.prog 7 #[.int .u32 id, .int .u32 head, .slice a2 l2 c2, .slice a3 l3 c3, .slice a4 l4 c4, .int .u32 v] w fun e w' => e = .returned (.bool true) ∧ RowKit.Below w.heap.size w w' := by
  have hb := bytes24 id head a2 l2 c2 a3 l3 c3 a4 l4 c4 v w h2.1 h3.1 h4.1
  have m2 := h2.1
  have m3 := h3.1
  have m4 := h4.1
  unfold maxLen at m2 m3 m4
  by_cases hl : l2 ≤ 4096 ∧ l3 ≤ 4096 ∧ l4 ≤ 4096
  · obtain ⟨hl2, hl3, hl4⟩ := hl
    have g0 : decide ((4096 : Int) < l2) = false := decide_eq_false (by omega)
    have g1 : decide ((4096 : Int) < l3) = false := decide_eq_false (by omega)
    have g2 : decide ((4096 : Int) < l4) = false := decide_eq_false (by omega)
    have g3 : decide ((1048576 : Int) < 4 * (l2 : Int) + 8 * (l3 : Int) + 8 * (l4 : Int)) = false := decide_eq_false (by omega)
    have H2 : Hid (IsSeq .u32 w a2 l2 z2) := h2
    have H3 : Hid (IsSeq .i64 w a3 l3 z3) := h3
    have H4 : Hid (IsSeq .i64 w a4 l4 z4) := h4
    clear h2 h3 h4
    go_enter Try.func7, Try.ntmps7
    go_wp2_with fail
    refine hb.mono ?_
    rintro e w' ⟨⟨bb, rfl⟩, hw⟩
    obtain rfl := hw
    clear hb
    cases bb
    · go_wp2_with fail
      go_ret
      exact ⟨rfl, RowKit.Below.refl _ _⟩
    · go_wp2_with fail
      refine (scriptSteps_any a3 l3 c3 a4 l4 c4 w' hl3 hl4).mono ?_
      rintro e w1 ⟨rfl, rfl⟩
      have hs := stepsOf_le l3 l4
      generalize stepsOf l3 l4 = n at hs ⊢
      go_wp2_with fail
      refine (scriptAllowed_any id head a4 l4 c4 n z4 w1 hl4 hs.2 H4.out).mono ?_
      rintro e w2 ⟨he, rfl⟩
      rcases he with rfl | ⟨rfl, hA⟩
      · go_wp2_with fail
        go_ret
        exact ⟨rfl, RowKit.Below.refl _ _⟩
      have HA : Hid (Allowed id head z4 n) := hA
      clear hA
      go_wp2_with fail
      refine (toNIDs_any a2 l2 c2 z2 w2 hl2 H2.out).mono ?_
      rintro e w3 ⟨p, cap, rfl, hr, _, hb1⟩
      have HN := newNode_lst id head p cap l2 z2 _ w3 hl2 hr
      have HB1 : Hid (RowKit.Below w2.heap.size w2 w3) := hb1
      clear hr hb1
      go_wp2_with fail
      refine HN.mono ?_
      rintro e w4 ⟨nb, rfl, hN, hb2⟩
      have HB2 : Hid (RowKit.Below w2.heap.size w2 w4) := HB1.out.trans (hb2.mono HB1.out.size)
      have HNk : Hid (NodeOk w2.heap.size w4 nb id head (srt (lst z2 l2)) 0 0 false) := hN.mono HB1.out.size
      clear HN hb2 hN HB1
      go_wp2_with fail
      go_loopw [16] (fun s16 wr => ∃ (k : Nat) (ex hp : Int) (tp : Bool), s16 = .int .i64 k ∧ k ≤ n ∧
          NodeOk w2.heap.size wr nb id head (srt (lst z2 l2)) ex hp tp ∧ RowKit.Below w2.heap.size w2 wr) (fun s16 _ => n - (intOf s16).toNat)
      case atStart => exact ⟨0, 0, 0, false, rfl, Nat.zero_le _, HNk.out, HB2.out⟩
      case round =>
        obtain ⟨k, ex, hp, tp, rfl, hk, hN, hB⟩ := hrel
        clear HB2 HNk
        have HNk : Hid (NodeOk w2.heap.size wr nb id head (srt (lst z2 l2)) ex hp tp) := hN
        have HB : Hid (RowKit.Below w2.heap.size w2 wr) := hB
        clear hN hB
        by_cases hlt : k < n
        · rcases H3.out.2.2 with e0 | ⟨b3, o3, e3, hb3, hc3⟩
          · omega
          rcases H4.out.2.2 with e0 | ⟨b4, o4, e4, hb4, hc4⟩
          · omega
          subst e3 e4
          have hAk := HA.out k hlt
          have hck : wr.cell? ⟨b3, o3 + k, none⟩ = some (.int .i64 (z3 k)) := by rw [HB.out.cell (p := ⟨b3, o3 + k, none⟩) hb3]; exact (hc3 k (by omega)).1
          have hch : wr.cell? ⟨b4, o4 + k, none⟩ = some (.int .i64 (z4 k)) := by rw [HB.out.cell (p := ⟨b4, o4 + k, none⟩) hb4]; exact (hc4 k (by omega)).1
          have ha3 : (k : Int) < (l3 : Int) := by omega
          have ha4 : (k : Int) < (l4 : Int) := by omega
          have hzn : (k : Int) < (n : Int) := by omega
          have hnb : w2.heap.size ≤ nb := HNk.out.1
          have TICK : Hid (∀ V, Kp noB wr V → Calls Try.prog 22 #[.pointer (some ⟨nb, 0, none⟩), .int .i64 (z3 k), .int .i64 (z4 k)] V fun r w' => ∃ fv, r = .returned (.tuple #[fv, .slice none 0 0]) ∧
              (NodeOk w2.heap.size w' nb id head (srt (lst z2 l2)) (z3 k) (z4 k) (takes ex (z3 k) (z4 k) tp) ∧ RowKit.Below w2.heap.size w2 w') ∧
              w'.cell? ⟨b3, o3 + k, none⟩ = some (.int .i64 (z3 k)) ∧ w'.cell? ⟨b4, o4 + k, none⟩ = some (.int .i64 (z4 k))) := by
            intro V hV
            refine (tick_any nb id head (srt (lst z2 l2)) w2.heap.size ex hp (z3 k) (z4 k) tp V (HNk.out.kept hV (fun _ x => x.elim)) hAk.1 hAk.2.1 hAk.2.2).mono ?_
            rintro r w' ⟨fv, rfl, k1, k2, k3⟩
            have hz := HB.out.size
            have hzV := hV.size
            have hBV : RowKit.Below w2.heap.size w2 V := HB.out.trans (hV.toBelow hz (fun _ _ x => x))
            have hBw : RowKit.Below w2.heap.size w2 w' := hBV.trans (k3.toBelow (by omega) (fun i hi x => by omega))
            exact ⟨fv, rfl, ⟨k2, hBw⟩, by rw [hBw.cell (p := ⟨b3, o3 + k, none⟩) hb3]; exact (hc3 k (by omega)).1, by rw [hBw.cell (p := ⟨b4, o4 + k, none⟩) hb4]; exact (hc4 k (by omega)).1⟩
          clear hAk hc3 hc4 HNk HA
          generalize z3 k = x at hck TICK
          generalize z4 k = hopk at hch TICK
          generalize takes ex x hopk tp = P at TICK
          go_wp2_with fail
          go_region_held3 (fun w' => w'.cell? ⟨b3, o3 + k, none⟩ = some (.int .i64 x) ∧ w'.cell? ⟨b4, o4 + k, none⟩ = some (.int .i64 hopk)) (go_keep) (first | (go_at_call 22; refine (TICK.out _ (Kp.refl noB wr).dr).mono ?_; rintro r w5 ⟨fv, rfl, h5, u1, u2⟩))
          have HN5 : Hid (NodeOk w2.heap.size w5 nb id head (srt (lst z2 l2)) x hopk P) := h5.1
          have HB5 : Hid (RowKit.Below w2.heap.size w2 w5) := h5.2
          clear h5 u1 u2 hck hch TICK
          go_wp2_with fail
          go_roundw
          case rel => exact ⟨k + 1, x, hopk, P, by go_num, by omega, HN5.out, HB5.out⟩
          case measure => simp [intOf]; omega
        · clear HA
          go_wp2_with fail
          have hn1 := nodeLen HNk.out
          have HO := onlyHead25 nb id head v a2 l2 c2 z2 wr hl2 (H2.out.kept HB.out) hn1.2 (nodeDep HNk.out)
          refine HO.mono ?_
          rintro e w6 ⟨rfl, n6, rfl⟩
          go_wp2_with fail
          go_ret
          exact ⟨rfl, HB.out.trans ((Kp.drewN noB wr n6).toBelow HB.out.size (fun _ _ x => x))⟩
  · clear h2 h3 h4
    by_cases e2 : (4096 : Int) < l2
    · go_enter Try.func7, Try.ntmps7
      go_wp2_with fail
      refine hb.mono ?_
      rintro e w' ⟨⟨bb, rfl⟩, hw⟩
      obtain rfl := hw
      clear hb
      cases bb
      all_goals
        go_wp2_with fail
        go_ret
        exact ⟨rfl, RowKit.Below.refl _ _⟩
    · by_cases e3 : (4096 : Int) < l3
      · go_enter Try.func7, Try.ntmps7
        go_wp2_with fail
        refine hb.mono ?_
        rintro e w' ⟨⟨bb, rfl⟩, hw⟩
        obtain rfl := hw
        clear hb
        cases bb
        all_goals
          go_wp2_with fail
          go_ret
          exact ⟨rfl, RowKit.Below.refl _ _⟩
      · have e4 : (4096 : Int) < l4 := by omega
        go_enter Try.func7, Try.ntmps7
        go_wp2_with fail
        refine hb.mono ?_
        rintro e w' ⟨⟨bb, rfl⟩, hw⟩
        obtain rfl := hw
        clear hb
        cases bb
        all_goals
          go_wp2_with fail
          go_ret
          exact ⟨rfl, RowKit.Below.refl _ _⟩
end Go.Proofs.Qxb6609273a
