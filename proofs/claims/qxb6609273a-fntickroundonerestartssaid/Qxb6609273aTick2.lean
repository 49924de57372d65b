/- Tick in round 2; Tick, whole. -/
import Derived.Test.Qxb6609273aTick
namespace Go.Proofs.Qxb6609273a
open Go.RowKit Go.Sort

set_option maxHeartbeats 2000000 in
theorem tick2 (nb : Nat) (id head : Int) (d : List Int) (hp e : Int) (w : World) (p : Option Addr) (cap : Nat) (ev : Value) (fb hb ab : Nat)
    (h1 : w.heap[nb]? = some (.cells (nodeC id head (.slice p d.length cap) ev fb hb ab e hp true) 72)) (h3 : w.heap[hb]? = some (.map #[] 0)) :
    Calls Try.prog 22 #[.pointer (some ⟨nb, 0, none⟩), .int .i64 e, .int .i64 2] w fun r w' => ∃ fk, r = .returned (.tuple #[.slice (some ⟨fk, 0, none⟩) 1 1, .slice none 0 0]) ∧
      w'.heap[fk]? = some (.cells (frameC 2 false id e 2) 62) ∧ w'.heap[nb]? = some (.cells (nodeC id head (.slice p d.length cap) ev fb hb ab e 2 true) 72) ∧ Kp (fun i => i = nb) w w' := by
  have f : ∀ i, w.frozen? ⟨nb, i, none⟩ = false := fun i => frozen_of_heap h1
  have c4 : w.cell? ⟨nb, 4, none⟩ = some (.int .i64 e) := cell_of_heap h1 rfl
  have c5 : w.cell? ⟨nb, 5, none⟩ = some (.int .i64 hp) := cell_of_heap h1 rfl
  have c6 : w.cell? ⟨nb, 6, none⟩ = some (.bool true) := cell_of_heap h1 rfl
  have c11 : w.cell? ⟨nb, 11, none⟩ = some (.map (some hb)) := cell_of_heap h1 rfl
  have hxb : (e != e) = false := by simp
  have nh : hb ≠ nb := fun e => by subst e; rw [h1] at h3; cases h3
  have H1 : Hid (w.heap[nb]? = some (.cells (nodeC id head (.slice p d.length cap) ev fb hb ab e hp true) 72)) := h1
  have H3 : Hid (w.heap[hb]? = some (.map #[] 0)) := h3
  have NH : Hid (hb ≠ nb) := nh
  clear h1 h3 nh
  go_enter Try.func22, Try.ntmps22
  go_wp2_with fail
  have HH2 : Hid (((w.setCell ⟨nb, 4, none⟩ (.int .i64 e)).setCell ⟨nb, 5, none⟩ (.int .i64 2)).heap[nb]? = some (.cells (nodeC id head (.slice p d.length cap) ev fb hb ab e 2 true) 72)) := heap_set_same (heap_set_same H1.out _) _
  have HK2 : Hid (Kp (fun i => i = nb) w ((w.setCell ⟨nb, 4, none⟩ (.int .i64 e)).setCell ⟨nb, 5, none⟩ (.int .i64 2))) := ((Kp.refl (fun i => i = nb) w).st _ _ rfl).st _ _ rfl
  clear c4 c5 c6 c11 f
  generalize (w.setCell ⟨nb, 4, none⟩ (.int .i64 e)).setCell ⟨nb, 5, none⟩ (.int .i64 2) = W2 at HH2 HK2 ⊢
  refine (keys33 hb W2).mono ?_
  rintro r w3 ⟨rfl, hw3⟩
  have HMB : Hid (w3.cell? ⟨W2.heap.size, 0, none⟩ = some (.map (some hb))) := by
    show _ = _
    rw [hw3, World.cell?_alloc_at _ _ _ _ rfl]; rfl
  have HMH : Hid (w3.heap[hb]? = some (.map #[] 0)) := by
    show _ = _
    rw [hw3]; exact heapAt_alloc (HK2.out.heap H3.out NH.out)
  have HH3 : Hid (w3.heap[nb]? = some (.cells (nodeC id head (.slice p d.length cap) ev fb hb ab e 2 true) 72)) := by
    show _ = _
    rw [hw3]; exact heapAt_alloc HH2.out
  have HK3 : Hid (Kp (fun i => i = nb) w w3) := by
    show Kp _ _ _
    rw [hw3]; exact HK2.out.al _
  clear hw3 HH2 HK2
  go_wp2_with fail
  refine (sorted32 W2.heap.size hb w3 HMB.out HMH.out).mono ?_
  rintro r w4 ⟨rfl, hb4⟩
  have HH4 : Hid (w4.heap[nb]? = some (.cells (nodeC id head (.slice p d.length cap) ev fb hb ab e 2 true) 72)) := heapAt_below hb4 HH3.out
  have HK4 : Hid (Kp (fun i => i = nb) w w4) := HK3.out.trans ((Kp.ofBelow hb4).mono (fun _ x => x.elim))
  clear hb4 HH3 HK3 HMB HMH
  have c0 : w4.cell? ⟨nb, 0, none⟩ = some (.int .u32 id) := cell_of_heap HH4.out rfl
  have hlt : nb < w4.heap.size := heap_lt HH4.out
  go_wp2_with fail
  refine wp_loop_rounds 2 ?_
  rw [rounds_succ]
  go_wp2_with fail
  rw [rounds_succ]
  go_wp2_with fail
  go_ret2
  refine ⟨w4.heap.size, rfl, ?_, ?_, ?_⟩
  · exact heapAt_new rfl
  · exact heapAt_alloc HH4.out
  · exact HK4.out.al _

/-- Does the node take part behind this tick? -/
def takes (ex e hop : Int) (tp : Bool) : Bool := if hop = 1 then true else if e = ex then tp else false

/-- What a tick hands back as frames. -/
def FrAns (w : World) (fv : Value) (part : Bool) (id e hop : Int) : Prop :=
  ((part = false ∨ hop = 3) ∧ fv = .slice none 0 0) ∨
  (part = true ∧ hop = 1 ∧ ∃ fk, fv = .slice (some ⟨fk, 0, none⟩) 1 1 ∧ w.heap[fk]? = some (.cells (frameC 1 true id e 1) 62)) ∨
  (part = true ∧ hop = 2 ∧ ∃ fk, fv = .slice (some ⟨fk, 0, none⟩) 1 1 ∧ w.heap[fk]? = some (.cells (frameC 2 false id e 2) 62))

theorem tick_any (nb : Nat) (id head : Int) (d : List Int) (B : Nat) (ex hp e hop : Int) (tp : Bool) (w : World) (hN : NodeOk B w nb id head d ex hp tp) (h1 : 1 ≤ hop) (h3 : hop ≤ 3) (hne : hop = 3 → id ≠ head) :
    Calls Try.prog 22 #[.pointer (some ⟨nb, 0, none⟩), .int .i64 e, .int .i64 hop] w fun r w' => ∃ fv, r = .returned (.tuple #[fv, .slice none 0 0]) ∧ FrAns w' fv (takes ex e hop tp) id e hop ∧ NodeOk B w' nb id head d e hop (takes ex e hop tp) ∧ Kp (fun i => i = nb) w w' := by
  obtain ⟨g0, p, cap, ev, fb, hb, ab, g1, g2, g3, g4, b1, b2, b3, hr, hn⟩ := hN
  have nf : fb ≠ nb := fun e => by subst e; rw [g1] at g2; cases g2
  have nh : hb ≠ nb := fun e => by subst e; rw [g1] at g3; cases g3
  have na : ab ≠ nb := fun e => by subst e; rw [g1] at g4; cases g4
  have mk : ∀ (w' : World) (t : Bool), w'.heap[nb]? = some (.cells (nodeC id head (.slice p d.length cap) ev fb hb ab e hop t) 72) → Kp (fun i => i = nb) w w' → NodeOk B w' nb id head d e hop t := fun w' t k1 k =>
    ⟨g0, p, cap, ev, fb, hb, ab, k1, k.heap g2 nf, k.heap g3 nh, k.heap g4 na, b1, b2, b3, hr.kept k (fun i hi => (hn i hi).2.1), hn⟩
  by_cases e1 : hop = 1
  · subst e1
    have et : takes ex e 1 tp = true := by simp [takes]
    rw [et]
    refine (tick1 nb id head d ex hp e tp w p cap ev fb hb ab g1 g3 g4).mono ?_
    rintro r w' ⟨fk, rfl, k1, k2, k3⟩
    exact ⟨_, rfl, .inr (.inl ⟨rfl, rfl, fk, rfl, k1⟩), mk w' true k2 k3, k3⟩
  · by_cases hoff : Off ex e tp
    · have et : takes ex e hop tp = false := by
        unfold takes
        rw [if_neg e1]
        rcases hoff with h | h
        · rw [if_neg h]
        · rw [h]; split <;> rfl
      rw [et]
      refine (tickOff nb id head d ex hp e hop tp w p cap ev fb hb ab e1 hoff g1).mono ?_
      rintro r w' ⟨rfl, k2, k3⟩
      exact ⟨_, rfl, .inl ⟨.inl rfl, rfl⟩, mk w' false k2 k3, k3⟩
    · have hx : e = ex := by
        by_cases h : e = ex
        · exact h
        · exact absurd (Or.inl h) hoff
      have ht : tp = true := by cases tp; exact absurd (Or.inr rfl) hoff; rfl
      subst hx ht
      have et : takes e e hop true = true := by simp [takes]
      rw [et]
      by_cases e2 : hop = 2
      · subst e2
        refine (tick2 nb id head d hp e w p cap ev fb hb ab g1 g3).mono ?_
        rintro r w' ⟨fk, rfl, k1, k2, k3⟩
        exact ⟨_, rfl, .inr (.inr ⟨rfl, rfl, fk, rfl, k1⟩), mk w' true k2 k3, k3⟩
      · obtain rfl : hop = 3 := by omega
        refine (tick3 nb id head d hp e w p cap ev fb hb ab (hne rfl) g1).mono ?_
        rintro r w' ⟨rfl, k2, k3⟩
        exact ⟨_, rfl, .inl ⟨.inr rfl, rfl⟩, mk w' true k2 k3, k3⟩
end Go.Proofs.Qxb6609273a
