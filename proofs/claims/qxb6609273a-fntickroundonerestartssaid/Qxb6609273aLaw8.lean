/- The walk of 'FnTickRoundOneRestarts'. -/
import Derived.Test.Qxb6609273aAnswer
import Derived.Test.Qxb6609273aLaw4
import Derived.Deep.RegionHeld3
import Derived.Deep.DrawnRows
attribute [local go_sem ↓] Go.wp_at_zero Go.wp_at_succ
namespace Go.Proofs.Qxb6609273a
open Go.RowKit Go.Sort

set_option maxHeartbeats 1000000 in
theorem bytes26 (x y : Int) (a2 : Option Addr) (l2 c2 : Nat) (a3 : Option Addr) (l3 c3 : Nat) (a4 : Option Addr) (l4 c4 : Nat) (e f : Int) (w : World) (h2 : l2 ≤ maxLen) (h3 : l3 ≤ maxLen) (h4 : l4 ≤ maxLen) :
    Calls Try.prog 26 #[.int .u32 x, .int .u32 y, .slice a2 l2 c2, .slice a3 l3 c3, .slice a4 l4 c4, .int .i64 e, .int .i64 f] w fun e w' => (∃ b, e = .returned (.bool b)) ∧ w' = w := by
  unfold maxLen at h2 h3 h4
  go_enter Try.func26, Try.ntmps26
  go_wp2
  all_goals go_ret
  all_goals exact ⟨⟨_, rfl⟩, rfl⟩

theorem Hid.mkk {p : Prop} (h : p) : Hid p := h
theorem takes_one1 (ex e : Int) (tp : Bool) : takes ex e 1 tp = true := by simp [takes]
theorem takes_two (ee ff : Int) : takes ee ff 2 true = (ff == ee) := by
  unfold takes
  rw [if_neg (by decide)]
  by_cases h : ff = ee
  · simp [h]
  · simp [h]

set_option maxHeartbeats 8000000 in
set_option maxRecDepth 100000 in
theorem walk8 (id head : Int) (a2 : Option Addr) (l2 c2 : Nat) (z2 : Nat → Int) (a3 : Option Addr) (l3 c3 : Nat) (z3 : Nat → Int) (a4 : Option Addr) (l4 c4 : Nat) (z4 : Nat → Int) (ee ff : Int) (w : World)
    (h2 : IsSeq .u32 w a2 l2 z2) (h3 : IsSeq .i64 w a3 l3 z3) (h4 : IsSeq .i64 w a4 l4 z4) :
    Calls Try.prog 8 #[.int .u32 id, .int .u32 head, .slice a2 l2 c2, .slice a3 l3 c3, .slice a4 l4 c4, .int .i64 ee, .int .i64 ff] w fun e w' => e = .returned (.bool true) ∧ RowKit.Below w.heap.size w w' := by
  have hb := bytes26 id head a2 l2 c2 a3 l3 c3 a4 l4 c4 ee ff w h2.1 h3.1 h4.1
  have m2 := h2.1
  have m3 := h3.1
  have m4 := h4.1
  unfold maxLen at m2 m3 m4
  by_cases hl : l2 ≤ 4096 ∧ l3 ≤ 4096 ∧ l4 ≤ 4096
  · obtain ⟨hl2, hl3, hl4⟩ := hl
    have g0 : decide ((4096 : Int) < l2) = false := decide_eq_false (by omega)
    have g1 : decide ((4096 : Int) < l3) = false := decide_eq_false (by omega)
    have g2 : decide ((4096 : Int) < l4) = false := decide_eq_false (by omega)
    have g3 : decide ((1048576 : Int) < 4 * (l2 : Int) + 8 * (l3 : Int) + 8 * (l4 : Int)) = false := decide_eq_false (by omega)
    have H2 : Hid (IsSeq .u32 w a2 l2 z2) := h2
    have H3 : Hid (IsSeq .i64 w a3 l3 z3) := h3
    have H4 : Hid (IsSeq .i64 w a4 l4 z4) := h4
    clear h2 h3 h4
    go_enter Try.func8, Try.ntmps8
    go_wp2_with fail
    refine hb.mono ?_
    rintro e w' ⟨⟨bb, rfl⟩, hw⟩
    obtain rfl := hw
    clear hb
    cases bb
    · go_wp2_with fail
      go_ret
      exact ⟨rfl, RowKit.Below.refl _ _⟩
    · go_wp2_with fail
      refine (scriptSteps_any a3 l3 c3 a4 l4 c4 w' hl3 hl4).mono ?_
      rintro e w1 ⟨rfl, rfl⟩
      have hs := stepsOf_le l3 l4
      generalize stepsOf l3 l4 = n at hs ⊢
      go_wp2_with fail
      refine (scriptAllowed_any id head a4 l4 c4 n z4 w1 hl4 hs.2 H4.out).mono ?_
      rintro e w2 ⟨he, rfl⟩
      rcases he with rfl | ⟨rfl, hA⟩
      · go_wp2_with fail
        go_ret
        exact ⟨rfl, RowKit.Below.refl _ _⟩
      have HA : Hid (Allowed id head z4 n) := hA
      clear hA
      go_wp2_with fail
      refine (toNIDs_any a2 l2 c2 z2 w2 hl2 H2.out).mono ?_
      rintro e w3 ⟨p, cap, rfl, hr, _, hb1⟩
      have HN := newNode_lst id head p cap l2 z2 _ w3 hl2 hr
      have HB1 : Hid (RowKit.Below w2.heap.size w2 w3) := hb1
      clear hr hb1
      go_wp2_with fail
      refine HN.mono ?_
      rintro e w4 ⟨nb, rfl, hN, hb2⟩
      have HB2 : Hid (RowKit.Below w2.heap.size w2 w4) := HB1.out.trans (hb2.mono HB1.out.size)
      have HNk : Hid (NodeOk w2.heap.size w4 nb id head (srt (lst z2 l2)) 0 0 false) := hN.mono HB1.out.size
      clear HN hb2 hN HB1
      go_wp2_with fail
      go_loopw [18] (fun s16 wr => ∃ (k : Nat) (ex hp : Int) (tp : Bool), s16 = .int .i64 k ∧ k ≤ n ∧
          NodeOk w2.heap.size wr nb id head (srt (lst z2 l2)) ex hp tp ∧ RowKit.Below w2.heap.size w2 wr) (fun s16 _ => n - (intOf s16).toNat)
      case atStart => exact ⟨0, 0, 0, false, rfl, Nat.zero_le _, HNk.out, HB2.out⟩
      case round =>
        obtain ⟨k, ex, hp, tp, rfl, hk, hN, hB⟩ := hrel
        clear HB2 HNk
        have HNk : Hid (NodeOk w2.heap.size wr nb id head (srt (lst z2 l2)) ex hp tp) := hN
        have HB : Hid (RowKit.Below w2.heap.size w2 wr) := hB
        clear hN hB
        by_cases hlt : k < n
        · rcases H3.out.2.2 with e0 | ⟨b3, o3, e3, hb3, hc3⟩
          · omega
          rcases H4.out.2.2 with e0 | ⟨b4, o4, e4, hb4, hc4⟩
          · omega
          subst e3 e4
          have hAk := HA.out k hlt
          have hck : wr.cell? ⟨b3, o3 + k, none⟩ = some (.int .i64 (z3 k)) := by rw [HB.out.cell (p := ⟨b3, o3 + k, none⟩) hb3]; exact (hc3 k (by omega)).1
          have hch : wr.cell? ⟨b4, o4 + k, none⟩ = some (.int .i64 (z4 k)) := by rw [HB.out.cell (p := ⟨b4, o4 + k, none⟩) hb4]; exact (hc4 k (by omega)).1
          have ha3 : (k : Int) < (l3 : Int) := by omega
          have ha4 : (k : Int) < (l4 : Int) := by omega
          have hzn : (k : Int) < (n : Int) := by omega
          have hnb : w2.heap.size ≤ nb := HNk.out.1
          have TICK : Hid (∀ V, Kp noB wr V → Calls Try.prog 22 #[.pointer (some ⟨nb, 0, none⟩), .int .i64 (z3 k), .int .i64 (z4 k)] V fun r w' => ∃ fv, r = .returned (.tuple #[fv, .slice none 0 0]) ∧
              (NodeOk w2.heap.size w' nb id head (srt (lst z2 l2)) (z3 k) (z4 k) (takes ex (z3 k) (z4 k) tp) ∧ RowKit.Below w2.heap.size w2 w') ∧
              w'.cell? ⟨b3, o3 + k, none⟩ = some (.int .i64 (z3 k)) ∧ w'.cell? ⟨b4, o4 + k, none⟩ = some (.int .i64 (z4 k))) := by
            intro V hV
            refine (tick_any nb id head (srt (lst z2 l2)) w2.heap.size ex hp (z3 k) (z4 k) tp V (HNk.out.kept hV (fun _ x => x.elim)) hAk.1 hAk.2.1 hAk.2.2).mono ?_
            rintro r w' ⟨fv, rfl, k1, k2, k3⟩
            have hz := HB.out.size
            have hzV := hV.size
            have hBV : RowKit.Below w2.heap.size w2 V := HB.out.trans (hV.toBelow hz (fun _ _ x => x))
            have hBw : RowKit.Below w2.heap.size w2 w' := hBV.trans (k3.toBelow (by omega) (fun i hi x => by omega))
            exact ⟨fv, rfl, ⟨k2, hBw⟩, by rw [hBw.cell (p := ⟨b3, o3 + k, none⟩) hb3]; exact (hc3 k (by omega)).1, by rw [hBw.cell (p := ⟨b4, o4 + k, none⟩) hb4]; exact (hc4 k (by omega)).1⟩
          clear hAk hc3 hc4 HNk HA
          generalize z3 k = x at hck TICK
          generalize z4 k = hopk at hch TICK
          generalize takes ex x hopk tp = P at TICK
          go_wp2_with fail
          go_region_held3 (fun w' => w'.cell? ⟨b3, o3 + k, none⟩ = some (.int .i64 x) ∧ w'.cell? ⟨b4, o4 + k, none⟩ = some (.int .i64 hopk)) (go_keep) (first | (go_at_call 22; refine (TICK.out _ (Kp.refl noB wr).dr).mono ?_; rintro r w5 ⟨fv, rfl, h5, u1, u2⟩))
          have HN5 : Hid (NodeOk w2.heap.size w5 nb id head (srt (lst z2 l2)) x hopk P) := h5.1
          have HB5 : Hid (RowKit.Below w2.heap.size w2 w5) := h5.2
          clear h5 u1 u2 hck hch TICK
          go_wp2_with fail
          go_roundw
          case rel => exact ⟨k + 1, x, hopk, P, by go_num, by omega, HN5.out, HB5.out⟩
          case measure => simp [intOf]; omega
        · clear HA
          go_wp2_with fail
          have TA := tick_any nb id head (srt (lst z2 l2)) w2.heap.size ex hp ee 1 tp wr HNk.out (by omega) (by omega) (fun h => by omega)
          rw [takes_one1] at TA
          have HTA := Hid.mkk TA
          clear TA
          refine HTA.out.mono ?_
          rintro r w5 ⟨fv, rfl, k1, k2, k3⟩
          have hz := HB.out.size
          have hnb : w2.heap.size ≤ nb := HNk.out.1
          have HF5 : Hid (FrAns w5 fv true id ee 1) := k1
          have HN5 : Hid (NodeOk w2.heap.size w5 nb id head (srt (lst z2 l2)) ee 1 true) := k2
          have HB5 : Hid (RowKit.Below w2.heap.size w2 w5) := HB.out.trans (k3.toBelow hz (fun i hi x => by omega))
          clear k1 k2 k3 HTA HNk HB
          go_wp2_with fail
          refine (answer_yes fv true id ee 1 w5 HF5.out).mono ?_
          rintro r w6 ⟨rfl, os6, hw6⟩
          have HN6 : Hid (NodeOk w2.heap.size w6 nb id head (srt (lst z2 l2)) ee 1 true) := by
            show NodeOk _ _ _ _ _ _ _ _ _
            rw [hw6]; exact HN5.out.kept (Kp.grow noB w5 os6) (fun _ x => x.elim)
          have HB6 : Hid (RowKit.Below w2.heap.size w2 w6) := by
            show RowKit.Below _ _ _
            rw [hw6]; exact HB5.out.trans ((Kp.grow noB w5 os6).toBelow HB5.out.size (fun _ _ x => x))
          clear hw6 HF5 HN5 HB5
          go_wp2_with fail
          have TB := tick_any nb id head (srt (lst z2 l2)) w2.heap.size ee 1 ff 2 true w6 HN6.out (by omega) (by omega) (fun h => by omega)
          rw [takes_two] at TB
          have HTB := Hid.mkk TB
          clear TB
          refine HTB.out.mono ?_
          rintro r w7 ⟨fv7, rfl, k1, k2, k3⟩
          have hz6 := HB6.out.size
          have HF7 : Hid (FrAns w7 fv7 (ff == ee) id ff 2) := k1
          have HN7 : Hid (NodeOk w2.heap.size w7 nb id head (srt (lst z2 l2)) ff 2 (ff == ee)) := k2
          have HB7 : Hid (RowKit.Below w2.heap.size w2 w7) := HB6.out.trans (k3.toBelow hz6 (fun i hi x => by omega))
          clear k1 k2 k3 HTB HN6 HB6
          generalize hP : (ff == ee) = P at HF7 HN7
          go_wp2_with fail
          refine (answer_yes fv7 P id ff 2 w7 HF7.out).mono ?_
          rintro r w8 ⟨rfl, os8, hw8⟩
          have HN8 : Hid (NodeOk w2.heap.size w8 nb id head (srt (lst z2 l2)) ff 2 P) := by
            show NodeOk _ _ _ _ _ _ _ _ _
            rw [hw8]; exact HN7.out.kept (Kp.grow noB w7 os8) (fun _ x => x.elim)
          have HB8 : Hid (RowKit.Below w2.heap.size w2 w8) := by
            show RowKit.Below _ _ _
            rw [hw8]; exact HB7.out.trans ((Kp.grow noB w7 os8).toBelow HB7.out.size (fun _ _ x => x))
          clear hw8 HF7 HN7 HB7
          go_wp2_with fail
          by_cases hid : id = head
          · subst hid
            have he : (id != id) = false := by simp
            have HM : Hid (Calls Try.prog 15 #[.pointer (some ⟨nb, 0, none⟩)] w8 fun e w' => ∃ p cap, e = .returned (.slice p l2 cap) ∧ Row w8.heap.size w' p (srt (lst z2 l2)) ∧ (∀ k, inRow p k → w8.heap.size ≤ k ∧ k < w'.heap.size) ∧ RowKit.Below w8.heap.size w8 w') := by
              have := members_head nb id (srt (lst z2 l2)) _ ff 2 P w8 (by simpa using hl2) HN8.out
              rwa [srt_length, lst_length] at this
            refine HM.out.mono ?_
            rintro e w9 ⟨p9, cap9, rfl, hr9, hap9, hb9⟩
            have HB9 : Hid (RowKit.Below w2.heap.size w2 w9) := HB8.out.trans (hb9.mono HB8.out.size)
            have HSC : Hid (Calls Try.prog 17 #[.slice a2 l2 c2] w9 fun e w' => e = .returned (.slice (some ⟨w9.heap.size, 0, none⟩) l2 l2) ∧ RowKit.Below w9.heap.size w9 w' ∧ Row w9.heap.size w' (some ⟨w9.heap.size, 0, none⟩) (srt (lst z2 l2)) ∧ w9.heap.size < w'.heap.size) :=
              sortedCopy_any a2 l2 c2 z2 w9 hl2 (H2.out.kept HB9.out)
            have HR9 : Hid (Row w8.heap.size w9 p9 (srt (lst z2 l2))) := hr9
            clear hr9 hap9 hb9
            go_wp2_with fail
            refine HSC.out.mono ?_
            rintro e w10 ⟨rfl, hb10, hr10, _⟩
            have HSA : Hid (Calls Try.prog 16 #[.slice p9 l2 cap9, .slice (some ⟨w9.heap.size, 0, none⟩) l2 l2] w10 fun e w' => e = .returned (.bool true) ∧ ∃ n, w' = w10.drewN n) := by
              have := sameAs_yes p9 (some ⟨w9.heap.size, 0, none⟩) cap9 l2 (srt (lst z2 l2)) _ _ w10 (by simpa using hl2) (HR9.out.kept (Kp.ofBelow hb10) (fun _ _ x => x)) hr10
              rwa [srt_length, lst_length] at this
            have HB10 : Hid (RowKit.Below w2.heap.size w2 w10) := HB9.out.trans (hb10.mono HB9.out.size)
            clear hb10 hr10
            go_wp2_with fail
            refine HSA.out.mono ?_
            rintro e w11 ⟨rfl, n11, rfl⟩
            go_wp2_with fail
            go_ret
            exact ⟨rfl, HB10.out.trans ((Kp.drewN noB w10 n11).toBelow HB10.out.size (fun _ _ x => x))⟩
          · have he : (id != head) = true := by simpa using hid
            have q := nil30
            have HM : Hid (Calls Try.prog 15 #[.pointer (some ⟨nb, 0, none⟩)] w8 fun e w' => e = .returned (.slice none 0 0) ∧ RowKit.Below w8.heap.size w8 w') :=
              members_nil nb id head w8 (fun e => hid e.symm) (nodeLen HN8.out).1 (nodeLen HN8.out).2
            refine HM.out.mono ?_
            rintro e w9 ⟨rfl, hb9⟩
            have HB9 : Hid (RowKit.Below w2.heap.size w2 w9) := HB8.out.trans (hb9.mono HB8.out.size)
            clear hb9
            go_wp2_with fail
            go_ret
            exact ⟨rfl, HB9.out⟩
  · clear h2 h3 h4
    by_cases e2 : (4096 : Int) < l2
    · go_enter Try.func8, Try.ntmps8
      go_wp2_with fail
      refine hb.mono ?_
      rintro e w' ⟨⟨bb, rfl⟩, hw⟩
      obtain rfl := hw
      clear hb
      cases bb
      all_goals
        go_wp2_with fail
        go_ret
        exact ⟨rfl, RowKit.Below.refl _ _⟩
    · by_cases e3 : (4096 : Int) < l3
      · go_enter Try.func8, Try.ntmps8
        go_wp2_with fail
        refine hb.mono ?_
        rintro e w' ⟨⟨bb, rfl⟩, hw⟩
        obtain rfl := hw
        clear hb
        cases bb
        all_goals
          go_wp2_with fail
          go_ret
          exact ⟨rfl, RowKit.Below.refl _ _⟩
      · have e4 : (4096 : Int) < l4 := by omega
        go_enter Try.func8, Try.ntmps8
        go_wp2_with fail
        refine hb.mono ?_
        rintro e w' ⟨⟨bb, rfl⟩, hw⟩
        obtain rfl := hw
        clear hb
        cases bb
        all_goals
          go_wp2_with fail
          go_ret
          exact ⟨rfl, RowKit.Below.refl _ _⟩
end Go.Proofs.Qxb6609273a
