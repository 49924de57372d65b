/- The walk of 'FnTickScriptExact'. -/
import Derived.Test.Qxb6609273aAnswer
import Derived.Test.Qxb6609273aLaw4
import Derived.Deep.RegionHeld3
import Derived.Deep.DrawnRows
attribute [local go_sem ↓] Go.wp_at_zero Go.wp_at_succ
namespace Go.Proofs.Qxb6609273a
open Go.RowKit Go.Sort

set_option maxHeartbeats 1000000 in
theorem bytes19 (x y : Int) (a2 : Option Addr) (l2 c2 : Nat) (a3 : Option Addr) (l3 c3 : Nat) (a4 : Option Addr) (l4 c4 : Nat) (w : World) (h2 : l2 ≤ maxLen) (h3 : l3 ≤ maxLen) (h4 : l4 ≤ maxLen) :
    Calls Try.prog 19 #[.int .u32 x, .int .u32 y, .slice a2 l2 c2, .slice a3 l3 c3, .slice a4 l4 c4] w fun e w' => (∃ b, e = .returned (.bool b)) ∧ w' = w := by
  unfold maxLen at h2 h3 h4
  go_enter Try.func19, Try.ntmps19
  go_wp2
  all_goals go_ret
  all_goals exact ⟨⟨_, rfl⟩, rfl⟩

theorem FrAns.grow {w : World} {fv : Value} {part : Bool} {id e hop : Int} (h : FrAns w fv part id e hop) (n : Nat) (os : Array Obj) : FrAns (grow (w.drewN n) os) fv part id e hop := by
  have k : Kp noB w (Sort.grow (w.drewN n) os) := (Kp.drewN noB w n).trans (Kp.grow _ _ os)
  rcases h with h | ⟨h1, h2, fk, h3, h4⟩ | ⟨h1, h2, fk, h3, h4⟩
  · exact .inl h
  · exact .inr (.inl ⟨h1, h2, fk, h3, k.heap h4 (fun x => x)⟩)
  · exact .inr (.inr ⟨h1, h2, fk, h3, k.heap h4 (fun x => x)⟩)

theorem answer_g (fv : Value) (part : Bool) (id e hop : Int) (w : World) (h : FrAns w fv part id e hop) :
    Calls Try.prog 23 #[fv, .slice none 0 0, .bool part, .int .u32 id, .int .i64 e, .int .i64 hop] w fun r w' => r = .returned (.bool true) ∧ ∃ q os', w' = grow (w.drewN q) os' :=
  (answer_yes fv part id e hop w h).mono fun _ _ ⟨he, os, hw⟩ => ⟨he, 0, os, hw⟩

/-- Ahead of step k: where the current run of ticks began, the latest round-1 tick, what the node holds. -/
def Inv (z : Nat → Int) (k : Nat) (rs lo ex : Int) (tp : Bool) : Prop :=
  0 ≤ rs ∧ lo < k ∧ (k = 0 → rs = 0 ∧ lo = -1) ∧ (0 < k → rs < k ∧ ex = z (k - 1)) ∧ tp = decide (rs ≤ lo)

theorem Inv.start (z : Nat → Int) : Inv z 0 0 (-1) 0 false := ⟨by omega, by omega, fun _ => ⟨rfl, rfl⟩, fun h => by omega, rfl⟩
theorem Inv.one {z : Nat → Int} {k : Nat} {rs lo ex : Int} {tp : Bool} (_h : Inv z k rs lo ex tp) (rs' : Int) (h0 : 0 ≤ rs') (h1 : rs' ≤ k) : Inv z (k + 1) rs' k (z k) true :=
  ⟨h0, by omega, fun h => by omega, fun _ => ⟨by omega, by simp⟩, (decide_eq_true h1).symm⟩
theorem Inv.stay {z : Nat → Int} {k : Nat} {rs lo ex : Int} {tp : Bool} (h : Inv z k rs lo ex tp) (_hs : k = 0 ∨ z k = z (k - 1)) : Inv z (k + 1) rs lo (z k) tp := by
  obtain ⟨h1, h2, h3, h4, h5⟩ := h
  refine ⟨h1, by omega, fun h => by omega, fun _ => ⟨?_, by simp⟩, h5⟩
  by_cases hk : k = 0
  · have := h3 hk; omega
  · have := h4 (by omega); omega
theorem Inv.turn {z : Nat → Int} {k : Nat} {rs lo ex : Int} {tp : Bool} (h : Inv z k rs lo ex tp) : Inv z (k + 1) k lo (z k) false :=
  ⟨by omega, by have := h.2.1; omega, fun h => by omega, fun _ => ⟨by omega, by simp⟩, (decide_eq_false (by have := h.2.1; omega)).symm⟩
theorem takes_one (ex e : Int) (tp : Bool) : takes ex e 1 tp = true := by simp [takes]
theorem takes_stay {z : Nat → Int} {k : Nat} {rs lo ex hop : Int} {tp : Bool} (h : Inv z k rs lo ex tp) (hs : k = 0 ∨ z k = z (k - 1)) (hh : hop ≠ 1) : takes ex (z k) hop tp = tp := by
  unfold takes
  rw [if_neg hh]
  by_cases hk : k = 0
  · have := h.2.2.1 hk
    have ht : tp = false := by rw [h.2.2.2.2]; exact decide_eq_false (by omega)
    rw [ht]; split <;> rfl
  · rcases hs with hs | hs
    · exact absurd hs hk
    · rw [if_pos (by rw [hs]; exact (h.2.2.2.1 (by omega)).2.symm)]
theorem takes_turn {z : Nat → Int} {k : Nat} {rs lo ex hop : Int} {tp : Bool} (h : Inv z k rs lo ex tp) (hk : 0 < k) (hs : z k ≠ z (k - 1)) (hh : hop ≠ 1) : takes ex (z k) hop tp = false := by
  unfold takes
  rw [if_neg hh, if_neg (by rw [(h.2.2.2.1 hk).2]; exact hs)]

/-- One step of the script, by the three tests that the law's own text makes. -/
theorem leaf {z : Nat → Int} {k : Nat} {rs lo ex : Int} {tp : Bool} (h : Inv z k rs lo ex tp) (hop : Int) (bg bn bh : Bool) (e1 : decide ((0 : Int) < k) = bg) (e2 : (z k != z (k - 1)) = bn) (e3 : (hop == 1) = bh) :
    takes ex (z k) hop tp = (cond bh true (cond (bg && bn) false tp)) ∧
    Inv z (k + 1) (cond (bg && bn) (k : Int) rs) (cond bh (k : Int) lo) (z k) (cond bh true (cond (bg && bn) false tp)) ∧
    decide ((cond (bg && bn) (k : Int) rs) ≤ (cond bh (k : Int) lo)) = (cond bh true (cond (bg && bn) false tp)) := by
  have hrs : rs ≤ k := by
    by_cases hk : k = 0
    · have := h.2.2.1 hk; omega
    · have := h.2.2.2.1 (by omega); omega
  have key : Inv z (k + 1) (cond (bg && bn) (k : Int) rs) (cond bh (k : Int) lo) (z k) (cond bh true (cond (bg && bn) false tp)) ∧ takes ex (z k) hop tp = (cond bh true (cond (bg && bn) false tp)) := by
    cases bh
    · have hh : hop ≠ 1 := by simpa using e3
      cases hgn : (bg && bn)
      · have hs : k = 0 ∨ z k = z (k - 1) := by
          cases bg
          · simp at e1; exact .inl e1
          · cases bn
            · simp at e2; exact .inr e2
            · simp at hgn
        exact ⟨h.stay hs, takes_stay h hs hh⟩
      · simp only [Bool.and_eq_true] at hgn
        obtain ⟨rfl, rfl⟩ := hgn
        have hk : 0 < k := by simpa using e1
        have hs : z k ≠ z (k - 1) := by simpa using e2
        exact ⟨h.turn, takes_turn h hk hs hh⟩
    · have hh : hop = 1 := by simpa using e3
      subst hh
      refine ⟨?_, takes_one _ _ _⟩
      cases (bg && bn)
      · exact h.one rs h.1 hrs
      · exact h.one (k : Int) (by omega) (Int.le_refl _)
  exact ⟨key.2, key.1, key.1.2.2.2.2.symm⟩

set_option maxHeartbeats 16000000 in
set_option maxRecDepth 100000 in
theorem walk6 (id head : Int) (a2 : Option Addr) (l2 c2 : Nat) (z2 : Nat → Int) (a3 : Option Addr) (l3 c3 : Nat) (z3 : Nat → Int) (a4 : Option Addr) (l4 c4 : Nat) (z4 : Nat → Int) (w : World)
    (h2 : IsSeq .u32 w a2 l2 z2) (h3 : IsSeq .i64 w a3 l3 z3) (h4 : IsSeq .i64 w a4 l4 z4) :
    Calls Try.prog 6 #[.int .u32 id, .int .u32 head, .slice a2 l2 c2, .slice a3 l3 c3, .slice a4 l4 c4] w fun e w' => e = .returned (.bool true) ∧ RowKit.Below w.heap.size w w' := by
  have hb := bytes19 id head a2 l2 c2 a3 l3 c3 a4 l4 c4 w h2.1 h3.1 h4.1
  have m2 := h2.1
  have m3 := h3.1
  have m4 := h4.1
  unfold maxLen at m2 m3 m4
  by_cases hl : l2 ≤ 4096 ∧ l3 ≤ 4096 ∧ l4 ≤ 4096
  · obtain ⟨hl2, hl3, hl4⟩ := hl
    have g0 : decide ((4096 : Int) < l2) = false := decide_eq_false (by omega)
    have g1 : decide ((4096 : Int) < l3) = false := decide_eq_false (by omega)
    have g2 : decide ((4096 : Int) < l4) = false := decide_eq_false (by omega)
    have g3 : decide ((1048576 : Int) < 4 * (l2 : Int) + 8 * (l3 : Int) + 8 * (l4 : Int)) = false := decide_eq_false (by omega)
    have H2 : Hid (IsSeq .u32 w a2 l2 z2) := h2
    have H3 : Hid (IsSeq .i64 w a3 l3 z3) := h3
    have H4 : Hid (IsSeq .i64 w a4 l4 z4) := h4
    clear h2 h3 h4
    go_enter Try.func6, Try.ntmps6
    go_wp2_with fail
    refine hb.mono ?_
    rintro e w' ⟨⟨bb, rfl⟩, hw⟩
    obtain rfl := hw
    clear hb
    cases bb
    · go_wp2_with fail
      go_ret
      exact ⟨rfl, RowKit.Below.refl _ _⟩
    · go_wp2_with fail
      refine (scriptSteps_any a3 l3 c3 a4 l4 c4 w' hl3 hl4).mono ?_
      rintro e w1 ⟨rfl, rfl⟩
      have hs := stepsOf_le l3 l4
      generalize stepsOf l3 l4 = n at hs ⊢
      go_wp2_with fail
      refine (scriptAllowed_any id head a4 l4 c4 n z4 w1 hl4 hs.2 H4.out).mono ?_
      rintro e w2 ⟨he, rfl⟩
      rcases he with rfl | ⟨rfl, hA⟩
      · go_wp2_with fail
        go_ret
        exact ⟨rfl, RowKit.Below.refl _ _⟩
      have HA : Hid (Allowed id head z4 n) := hA
      clear hA
      go_wp2_with fail
      refine (toNIDs_any a2 l2 c2 z2 w2 hl2 H2.out).mono ?_
      rintro e w3 ⟨p, cap, rfl, hr, _, hb1⟩
      have HN := newNode_lst id head p cap l2 z2 _ w3 hl2 hr
      have HB1 : Hid (RowKit.Below w2.heap.size w2 w3) := hb1
      clear hr hb1
      go_wp2_with fail
      refine HN.mono ?_
      rintro e w4 ⟨nb, rfl, hN, hb2⟩
      have HB2 : Hid (RowKit.Below w2.heap.size w2 w4) := HB1.out.trans (hb2.mono HB1.out.size)
      have HNk : Hid (NodeOk w2.heap.size w4 nb id head (srt (lst z2 l2)) 0 0 false) := hN.mono HB1.out.size
      clear HN hb2 hN HB1
      go_wp2_with fail
      go_loopw [14, 15, 16] (fun s14 s15 s16 wr => ∃ (k : Nat) (rs lo ex hp : Int) (tp : Bool), s14 = .int .i64 rs ∧ s15 = .int .i64 lo ∧ s16 = .int .i64 k ∧ k ≤ n ∧ Inv z3 k rs lo ex tp ∧
          NodeOk w2.heap.size wr nb id head (srt (lst z2 l2)) ex hp tp ∧ RowKit.Below w2.heap.size w2 wr) (fun _ _ s16 _ => n - (intOf s16).toNat)
      case atStart => exact ⟨0, 0, -1, 0, 0, false, rfl, rfl, rfl, Nat.zero_le _, Inv.start z3, HNk.out, HB2.out⟩
      case round =>
        obtain ⟨k, rs, lo, ex, hp, tp, rfl, rfl, rfl, hk, hI, hN, hB⟩ := hrel
        clear HB2 HNk
        have HI : Hid (Inv z3 k rs lo ex tp) := hI
        have HNk : Hid (NodeOk w2.heap.size wr nb id head (srt (lst z2 l2)) ex hp tp) := hN
        have HB : Hid (RowKit.Below w2.heap.size w2 wr) := hB
        clear hI hN hB
        by_cases hlt : k < n
        · rcases H3.out.2.2 with e0 | ⟨b3, o3, e3, hb3, hc3⟩
          · omega
          rcases H4.out.2.2 with e0 | ⟨b4, o4, e4, hb4, hc4⟩
          · omega
          subst e3 e4
          have hAk := HA.out k hlt
          have hck : wr.cell? ⟨b3, o3 + k, none⟩ = some (.int .i64 (z3 k)) := by rw [HB.out.cell (p := ⟨b3, o3 + k, none⟩) hb3]; exact (hc3 k (by omega)).1
          have hcp : wr.cell? ⟨b3, o3 + (k - 1), none⟩ = some (.int .i64 (z3 (k - 1))) := by rw [HB.out.cell (p := ⟨b3, o3 + (k - 1), none⟩) hb3]; exact (hc3 (k - 1) (by omega)).1
          have hch : wr.cell? ⟨b4, o4 + k, none⟩ = some (.int .i64 (z4 k)) := by rw [HB.out.cell (p := ⟨b4, o4 + k, none⟩) hb4]; exact (hc4 k (by omega)).1
          have ha3 : (k : Int) < (l3 : Int) := by omega
          have ha4 : (k : Int) < (l4 : Int) := by omega
          have ha5 : (k : Int) - 1 < (l3 : Int) := by omega
          have hkn : ((k : Int) - 1).toNat = k - 1 := by omega
          have hzn : (k : Int) < (n : Int) := by omega
          have hnb : w2.heap.size ≤ nb := HNk.out.1
          generalize e1 : decide ((0 : Int) < k) = bg
          generalize e2 : (z3 k != z3 (k - 1)) = bn
          generalize e3 : (z4 k == 1) = bh
          obtain ⟨t1, t2, t3⟩ := leaf HI.out (z4 k) bg bn bh e1 e2 e3
          have TICK : Hid (∀ V, Kp noB wr V → Calls Try.prog 22 #[.pointer (some ⟨nb, 0, none⟩), .int .i64 (z3 k), .int .i64 (z4 k)] V fun r w' => ∃ fv, r = .returned (.tuple #[fv, .slice none 0 0]) ∧
              (FrAns w' fv (cond bh true (cond (bg && bn) false tp)) id (z3 k) (z4 k) ∧ NodeOk w2.heap.size w' nb id head (srt (lst z2 l2)) (z3 k) (z4 k) (cond bh true (cond (bg && bn) false tp)) ∧ RowKit.Below w2.heap.size w2 w') ∧
              w'.cell? ⟨b3, o3 + k, none⟩ = some (.int .i64 (z3 k)) ∧ w'.cell? ⟨b4, o4 + k, none⟩ = some (.int .i64 (z4 k))) := by
            intro V hV
            refine (tick_any nb id head (srt (lst z2 l2)) w2.heap.size ex hp (z3 k) (z4 k) tp V (HNk.out.kept hV (fun _ x => x.elim)) hAk.1 hAk.2.1 hAk.2.2).mono ?_
            rintro r w' ⟨fv, rfl, k1, k2, k3⟩
            rw [t1] at k1 k2
            have hz := HB.out.size
            have hzV := hV.size
            have hBV : RowKit.Below w2.heap.size w2 V := HB.out.trans (hV.toBelow hz (fun _ _ x => x))
            have hBw : RowKit.Below w2.heap.size w2 w' := hBV.trans (k3.toBelow (by omega) (fun i hi x => by omega))
            exact ⟨fv, rfl, ⟨k1, k2, hBw⟩, by rw [hBw.cell (p := ⟨b3, o3 + k, none⟩) hb3]; exact (hc3 k (by omega)).1, by rw [hBw.cell (p := ⟨b4, o4 + k, none⟩) hb4]; exact (hc4 k (by omega)).1⟩
          have FIN : Hid (∀ (rs' lo' : Int) (P : Bool) (wr' : World), Inv z3 (k + 1) rs' lo' (z3 k) P → NodeOk w2.heap.size wr' nb id head (srt (lst z2 l2)) (z3 k) (z4 k) P → RowKit.Below w2.heap.size w2 wr' →
              ∃ (k1 : Nat) (rs1 lo1 ex1 hp1 : Int) (tp1 : Bool), Value.int .i64 rs' = .int .i64 rs1 ∧ Value.int .i64 lo' = .int .i64 lo1 ∧ Value.int .i64 ((k : Int) + 1) = .int .i64 k1 ∧ k1 ≤ n ∧ Inv z3 k1 rs1 lo1 ex1 tp1 ∧
                NodeOk w2.heap.size wr' nb id head (srt (lst z2 l2)) ex1 hp1 tp1 ∧ RowKit.Below w2.heap.size w2 wr') :=
            fun rs' lo' P wr' i1 i2 i3 => ⟨k + 1, rs', lo', z3 k, z4 k, P, rfl, rfl, by go_num, by omega, i1, i2, i3⟩
          clear hAk t1 hc3 hc4 HI HNk HA
          have INV := Hid.mk' t2
          clear t2
          generalize z3 (k - 1) = xp at hcp e2
          generalize z3 k = x at hck e2 TICK FIN INV
          generalize z4 k = hopk at hch e3 TICK FIN
          have mx := mixed
          cases bg <;> cases bn <;> cases bh <;> simp only [Bool.false_and, Bool.true_and, cond_true, cond_false] at TICK INV t3
          all_goals
            first
              | (have hk0 : (0 : Int) < (k : Int) := of_decide_eq_true e1
                 have hk1 : (0 : Int) ≤ (k : Int) - 1 := by omega
                 have hk2 : 0 < k := by omega
                 clear e1
                 skip)
              | (have hk2 : ¬ 0 < k := by (have := of_decide_eq_false e1; omega)
                 skip)
            go_wp2_with fail
            go_quiet (fail)
            go_wp2_with fail
            have hV : Kp noB wr (wr.drewN nq) := Kp.drewN _ _ _
            have v1 : (wr.drewN nq).cell? ⟨b3, o3 + k, none⟩ = some (.int .i64 x) := hck
            have v2 : (wr.drewN nq).cell? ⟨b4, o4 + k, none⟩ = some (.int .i64 hopk) := hch
            clear hck hch hcp
            generalize wr.drewN nq = V at hV v1 v2 ⊢
            have HV : Hid (Kp noB wr V) := hV
            clear hV
            go_region_held3 (fun w' => w'.cell? ⟨b3, o3 + k, none⟩ = some (.int .i64 x) ∧ w'.cell? ⟨b4, o4 + k, none⟩ = some (.int .i64 hopk)) (go_keep) (first | (go_at_call 22; refine (TICK.out _ (HV.out.dr)).mono ?_; rintro r w5 ⟨fv, rfl, h5, u1, u2⟩))
            have HF : Hid (FrAns w5 fv _ id x hopk) := h5.1
            have HN5 : Hid (NodeOk w2.heap.size w5 nb id head (srt (lst z2 l2)) x hopk _) := h5.2.1
            have HB5 : Hid (RowKit.Below w2.heap.size w2 w5) := h5.2.2
            have q1 : ∀ n os, (grow (w5.drewN n) os).cell? ⟨b3, o3 + k, none⟩ = some (.int .i64 x) := fun n os => cell_grown (cell_lt u1) u1 n os
            have q2 : ∀ n os, (grow (w5.drewN n) os).cell? ⟨b4, o4 + k, none⟩ = some (.int .i64 hopk) := fun n os => cell_grown (cell_lt u2) u2 n os
            clear h5 u1 u2 v1 v2
            go_wp2_with fail
            go_quiet_grown (first | (go_at_call 23; refine Calls.grown_of (answer_g _ _ _ _ _ _ (HF.out.grow _ _))))
            go_wp2_with fail
            go_roundw
            case rel =>
              have kq : Kp noB w5 (grow (w5.drewN nq) osq) := (Kp.drewN noB w5 nq).trans (Kp.grow _ _ osq)
              exact FIN.out _ _ _ _ INV.out (HN5.out.kept kq (fun _ x => x.elim)) (HB5.out.trans (kq.toBelow HB5.out.size (fun _ _ x => x)))
            case measure => simp [intOf]; omega
        · go_wp2_with fail
          go_ret
          exact ⟨rfl, HB.out⟩
  · clear h2 h3 h4
    by_cases e2 : (4096 : Int) < l2
    · go_enter Try.func6, Try.ntmps6
      go_wp2_with fail
      refine hb.mono ?_
      rintro e w' ⟨⟨bb, rfl⟩, hw⟩
      obtain rfl := hw
      clear hb
      cases bb
      all_goals
        go_wp2_with fail
        go_ret
        exact ⟨rfl, RowKit.Below.refl _ _⟩
    · by_cases e3 : (4096 : Int) < l3
      · go_enter Try.func6, Try.ntmps6
        go_wp2_with fail
        refine hb.mono ?_
        rintro e w' ⟨⟨bb, rfl⟩, hw⟩
        obtain rfl := hw
        clear hb
        cases bb
        all_goals
          go_wp2_with fail
          go_ret
          exact ⟨rfl, RowKit.Below.refl _ _⟩
      · have e4 : (4096 : Int) < l4 := by omega
        go_enter Try.func6, Try.ntmps6
        go_wp2_with fail
        refine hb.mono ?_
        rintro e w' ⟨⟨bb, rfl⟩, hw⟩
        obtain rfl := hw
        clear hb
        cases bb
        all_goals
          go_wp2_with fail
          go_ret
          exact ⟨rfl, RowKit.Below.refl _ _⟩
end Go.Proofs.Qxb6609273a
