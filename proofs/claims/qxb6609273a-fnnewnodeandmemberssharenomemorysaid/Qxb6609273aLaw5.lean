/- The walk of 'FnNewNodeAndMembersShareNoMemory'. -/
import Derived.Test.Qxb6609273aLaw4
namespace Go.Proofs.Qxb6609273a
open Go.RowKit Go.Sort

set_option maxHeartbeats 400000 in
theorem bytes18 (x : Int) (a : Option Addr) (l c : Nat) (w : World) (h : l ≤ maxLen) : Calls Try.prog 18 #[.int .u32 x, .slice a l c] w fun e w' => (∃ b, e = .returned (.bool b)) ∧ w' = w := by
  unfold maxLen at h
  go_enter Try.func18, Try.ntmps18
  go_wp2
  all_goals go_ret
  all_goals exact ⟨⟨_, rfl⟩, rfl⟩

/-- A store into a row. -/
theorem Row.store {B : Nat} {w : World} {b off k : Nat} {d : List Int} (h : Row B w (some ⟨b, off, none⟩) d) (hk : k < d.length) (y : Int) : Row B (w.setCell ⟨b, off + k, none⟩ (.int .u32 y)) (some ⟨b, off, none⟩) (d.set k y) := by
  rcases h with h | ⟨b', off', hx, hB, hb, hH⟩
  · subst h; simp at hk
  · injection hx with hx
    injection hx with e1 e2
    subst e1 e2
    refine .inr ⟨b, off, rfl, hB, by simpa [World.setCell] using hb, ?_⟩
    have e := putRow_set encU w b off d.toArray k y (by simpa using hk)
    rw [putRow_self encU w b off _ hH] at e
    show Holds encU (w.setCell ⟨b, off + k, none⟩ (encU y)) b off (d.set k y).toArray
    rw [e]
    have := holds_putRow encU w b off d.toArray (d.toArray.setIfInBounds k y) hH (by simp)
    simpa using this

/-- The state of a loop that writes over a row. -/
def Over (B : Nat) (V : World) (p : Option Addr) (n : Nat) (wr : World) : Prop := ∃ d : List Int, d.length = n ∧ Row B wr p d ∧ Kp (inRow p) V wr

theorem Over.look {B : Nat} {V : World} {p : Option Addr} {n : Nat} {wr : World} (h : Over B V p n wr) (k : Nat) (hk : k < n) :
    ∃ b off x, p = some ⟨b, off, none⟩ ∧ wr.cell? ⟨b, off + k, none⟩ = some (.int .u32 x) ∧ wr.frozen? ⟨b, off + k, none⟩ = false ∧ ∀ y, Over B V p n (wr.setCell ⟨b, off + k, none⟩ (.int .u32 y)) := by
  obtain ⟨d, hd, hr, hk2⟩ := h
  have hr0 := hr
  rcases hr with h | ⟨b, off, rfl, hB, hb, hH⟩
  · subst h; simp at hd; omega
  · have hj : k < d.toArray.size := by simp; omega
    exact ⟨b, off, d.toArray[k]!, rfl, (hH k hj).1, (hH k hj).2, fun y => ⟨d.set k y, by simpa using hd, hr0.store (by omega) y, hk2.trans (Kp.setCell _ _ _ ⟨_, rfl, rfl⟩)⟩⟩

set_option maxHeartbeats 4000000 in
theorem walk5 (id : Int) (a : Option Addr) (len c : Nat) (z : Nat → Int) (w : World) (h : IsSeq .u32 w a len z) :
    Calls Try.prog 5 #[.int .u32 id, .slice a len c] w fun e w' => e = .returned (.bool true) ∧ RowKit.Below w.heap.size w w' := by
  have hb := bytes18 id a len c w h.1
  have hm := h.1
  unfold maxLen at hm
  by_cases hl : len ≤ 4096
  · have g0 : decide ((4096 : Int) < len) = false := decide_eq_false (by omega)
    have g2 : decide ((1048576 : Int) < 4 * (len : Int)) = false := decide_eq_false (by omega)
    have HS : Hid (IsSeq .u32 w a len z) := h
    clear h
    go_enter Try.func5, Try.ntmps5
    go_wp2_with fail
    refine hb.mono ?_
    rintro e w' ⟨⟨bb, rfl⟩, hw⟩
    obtain rfl := hw
    clear hb
    cases bb
    · go_wp2_with fail
      go_ret
      exact ⟨rfl, RowKit.Below.refl _ _⟩
    · go_wp2_with fail
      refine (sortedCopy_any a len c z w' hl HS.out).mono ?_
      rintro e w1 ⟨rfl, hb1, hr1, hz1⟩
      have HT := toNIDs_any a len c z w1 hl (HS.out.kept hb1)
      have HB1 : Hid (RowKit.Below w'.heap.size w' w1) := hb1
      have HR1 : Hid (Row w'.heap.size w1 (some ⟨w'.heap.size, 0, none⟩) (srt (lst z len))) := hr1
      have HZ1 : Hid (w'.heap.size < w1.heap.size) := hz1
      clear hb1 hr1 hz1
      go_wp2_with fail
      refine HT.mono ?_
      rintro e w2 ⟨p, cap, rfl, hr2, hap2, hb2⟩
      have HN := newNode_lst id id p cap len z _ w2 hl hr2
      have HA2 : Hid (∀ k, inRow p k → w1.heap.size ≤ k ∧ k < w2.heap.size) := hap2
      have HR2 : Hid (Row w1.heap.size w2 p (lst z len)) := hr2
      have HB2 : Hid (RowKit.Below w1.heap.size w1 w2) := hb2
      clear HT hr2 hap2 hb2
      go_wp2_with fail
      refine HN.mono ?_
      rintro e w3 ⟨nb, rfl, hN, hb3⟩
      have HB3 : Hid (RowKit.Below w2.heap.size w2 w3) := hb3
      have HNk : Hid (NodeOk w2.heap.size w3 nb id id (srt (lst z len)) 0 0 false) := hN
      clear HN hN hb3
      go_wp2_with fail
      have HO : Hid (Over w1.heap.size w3 p len w3) := ⟨lst z len, by simp, HR2.out.kept (Kp.ofBelow HB3.out) (fun _ _ x => x), Kp.refl _ _⟩
      go_loopw [8] (fun s8 wr => ∃ k : Nat, s8 = .int .i64 k ∧ k ≤ len ∧ Over w1.heap.size w3 p len wr) (fun s8 _ => len - (intOf s8).toNat)
      case atStart => exact ⟨0, rfl, Nat.zero_le _, HO.out⟩
      case round =>
        obtain ⟨k, rfl, hk, hov⟩ := hrel
        by_cases hlt : k < len
        · obtain ⟨b, off, x, hp, hcx, hfx, hset⟩ := hov.look k hlt
          subst hp
          have HSET : Hid (∀ y, Over w1.heap.size w3 (some ⟨b, off, none⟩) len (wr.setCell ⟨b, off + k, none⟩ (.int .u32 y))) := hset
          clear hset hov
          go_wp2_with fail
          go_roundw
          case rel => exact ⟨k + 1, by go_num, by omega, HSET.out _⟩
          case measure => simp [intOf]; omega
        · obtain ⟨d4, hd4, hr4, hk4⟩ := hov
          have HN4 : Hid (NodeOk w2.heap.size wr nb id id (srt (lst z len)) 0 0 false) := HNk.out.kept hk4 (fun i hi => (HA2.out i hi).2)
          have HB4 : Hid (RowKit.Below w'.heap.size w' wr) := by
            have e1 := HB1.out.size
            have e2 := HB2.out.size
            have e3 := HB3.out.size
            refine ((HB1.out.trans (HB2.out.mono e1)).trans (HB3.out.mono (by omega))).trans (hk4.toBelow (by omega) (fun i hi x => ?_))
            have := (HA2.out i x).1
            omega
          have HR4 : Hid (Row w'.heap.size wr (some ⟨w'.heap.size, 0, none⟩) (srt (lst z len))) := by
            refine ((HR1.out.kept (Kp.ofBelow HB2.out) (fun _ _ x => x)).kept (Kp.ofBelow HB3.out) (fun _ _ x => x)).kept hk4 (fun i hi x => ?_)
            obtain ⟨y, hy, hy2⟩ := hi
            injection hy with hy
            subst hy
            simp only at hy2
            have := (HA2.out i x).1
            have := HZ1.out
            omega
          clear HO HR1 HR2 HNk HB1 HB2 HB3 HA2 HZ1 HS hr4 hk4 hd4
          generalize wr = V at HN4 HB4 HR4 ⊢
          have HM : Hid (∀ W, NodeOk w2.heap.size W nb id id (srt (lst z len)) 0 0 false → Calls Try.prog 15 #[.pointer (some ⟨nb, 0, none⟩)] W fun e w' => ∃ p cap, e = .returned (.slice p len cap) ∧ Row W.heap.size w' p (srt (lst z len)) ∧ (∀ k, inRow p k → W.heap.size ≤ k ∧ k < w'.heap.size) ∧ RowKit.Below W.heap.size W w') := by
            intro W hW
            have := members_head nb id (srt (lst z len)) _ 0 0 false W (by simpa using hl) hW
            rwa [srt_length, lst_length] at this
          have HSA : Hid (∀ p1 p2 c1 c2 B1 B2 W, Row B1 W p1 (srt (lst z len)) → Row B2 W p2 (srt (lst z len)) → Calls Try.prog 16 #[.slice p1 len c1, .slice p2 len c2] W fun e w' => e = .returned (.bool true) ∧ ∃ n, w' = W.drewN n) := by
            intro p1 p2 c1 c2 B1 B2 W h1 h2
            have := sameAs_yes p1 p2 c1 c2 (srt (lst z len)) B1 B2 W (by simpa using hl) h1 h2
            rwa [srt_length, lst_length] at this
          go_wp2_with fail
          refine (HM.out _ HN4.out).mono ?_
          rintro e w5 ⟨p5, cap5, rfl, hr5, hap5, hb5⟩
          have HR5 : Hid (Row V.heap.size w5 p5 (srt (lst z len))) := hr5
          have HA5 : Hid (∀ k, inRow p5 k → V.heap.size ≤ k ∧ k < w5.heap.size) := hap5
          have HB5 : Hid (RowKit.Below V.heap.size V w5) := hb5
          clear hr5 hap5 hb5
          go_wp2_with fail
          refine (HSA.out _ _ _ _ _ _ _ HR5.out (HR4.out.kept (Kp.ofBelow HB5.out) (fun _ _ x => x))).mono ?_
          rintro e w6 ⟨rfl, n6, rfl⟩
          go_wp2_with fail
          have HO5 : Hid (Over V.heap.size w5 p5 len (w5.drewN n6)) := ⟨srt (lst z len), by simp, HR5.out.kept (Kp.drewN noB w5 n6) (fun _ _ x => x), Kp.drewN _ _ _⟩
          generalize w5.drewN n6 = w6 at HO5 ⊢
          go_loopw [10] (fun s10 wr => ∃ k : Nat, s10 = .int .i64 k ∧ k ≤ len ∧ Over V.heap.size w5 p5 len wr) (fun s10 _ => len - (intOf s10).toNat)
          case atStart => exact ⟨0, rfl, Nat.zero_le _, HO5.out⟩
          case round =>
            obtain ⟨k, rfl, hk, hov⟩ := hrel
            by_cases hlt : k < len
            · obtain ⟨b, off, x, hp, hcx, hfx, hset⟩ := hov.look k hlt
              subst hp
              have HSET : Hid (∀ y, Over V.heap.size w5 (some ⟨b, off, none⟩) len (wr.setCell ⟨b, off + k, none⟩ (.int .u32 y))) := hset
              clear hset hov
              go_wp2_with fail
              go_roundw
              case rel => exact ⟨k + 1, by go_num, by omega, HSET.out _⟩
              case measure => simp [intOf]; omega
            · obtain ⟨d6, _, _, hk6⟩ := hov
              have hkV : Kp noB V wr := (Kp.ofBelow HB5.out).transNew hk6 (fun i hi x => by have := (HA5.out i x).1; omega)
              have HN6 : Hid (NodeOk w2.heap.size wr nb id id (srt (lst z len)) 0 0 false) := HN4.out.kept hkV (fun _ x => x.elim)
              have HR6 : Hid (Row w'.heap.size wr (some ⟨w'.heap.size, 0, none⟩) (srt (lst z len))) := HR4.out.kept hkV (fun _ _ x => x)
              have HB6 : Hid (RowKit.Below w'.heap.size w' wr) := HB4.out.trans (hkV.toBelow HB4.out.size (fun _ _ x => x))
              clear hk6 hkV HO5
              go_wp2_with fail
              refine (HM.out _ HN6.out).mono ?_
              rintro e w7 ⟨p7, cap7, rfl, hr7, hap7, hb7⟩
              have HR7 : Hid (Row wr.heap.size w7 p7 (srt (lst z len))) := hr7
              have HB7 : Hid (RowKit.Below wr.heap.size wr w7) := hb7
              clear hr7 hap7 hb7
              go_wp2_with fail
              refine (HSA.out _ _ _ _ _ _ _ HR7.out (HR6.out.kept (Kp.ofBelow HB7.out) (fun _ _ x => x))).mono ?_
              rintro e w8 ⟨rfl, n8, rfl⟩
              go_wp2_with fail
              go_ret
              have hz := HB6.out.size
              have hz7 := HB7.out.size
              exact ⟨rfl, (HB6.out.trans (HB7.out.mono hz)).trans ((Kp.drewN noB w7 n8).toBelow (by omega) (fun _ _ x => x))⟩
  · have g0 : (4096 : Int) < len := by omega
    clear h
    go_enter Try.func5, Try.ntmps5
    go_wp2_with fail
    refine hb.mono ?_
    rintro e w' ⟨⟨bb, rfl⟩, hw⟩
    obtain rfl := hw
    clear hb
    cases bb
    all_goals
      go_wp2_with fail
      go_ret
      exact ⟨rfl, RowKit.Below.refl _ _⟩
end Go.Proofs.Qxb6609273a
