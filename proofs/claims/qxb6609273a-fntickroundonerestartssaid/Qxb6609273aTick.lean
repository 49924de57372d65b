/- Tick at a node that has received nothing. -/
import Derived.Test.Qxb6609273aIter
import Derived.BigRegion
namespace Go.Proofs.Qxb6609273a
open Go.RowKit Go.Sort

theorem clear58 (w : World) (ty : TypeId) (mb : Nat) (h : w.heap[mb]? = some (.map #[] 0)) : (Builtin.clear_ #[58] ty #[.map (some mb)]).run Try.prog w = .ok (.tuple #[]) w := by
  have e : { w with heap := w.heap.setIfInBounds mb (.map #[] 0) } = w := by
    have : w.heap.setIfInBounds mb (.map #[] 0) = w.heap := by
      apply Array.ext_getElem?
      intro k
      rw [Array.getElem?_setIfInBounds]
      split
      · rename_i hk
        subst hk
        rw [h, if_pos (heap_lt h)]
      · rfl
    rw [this]
  simp [Builtin.clear_, run_underlying Try.underlying58, MapKept.run_getObj_map h, MapKept.run_setObj_map _ h, Result.andThen, e]
theorem clear63 (w : World) (ty : TypeId) : (Builtin.clear_ #[63] ty #[.map none]).run Try.prog w = .ok (.tuple #[]) w := by simp [Builtin.clear_, run_underlying Try.underlying63]
theorem clear66 (w : World) (ty : TypeId) : (Builtin.clear_ #[66] ty #[.map none]).run Try.prog w = .ok (.tuple #[]) w := by simp [Builtin.clear_, run_underlying Try.underlying66]
theorem clear69 (w : World) (ty : TypeId) : (Builtin.clear_ #[69] ty #[.map none]).run Try.prog w = .ok (.tuple #[]) w := by simp [Builtin.clear_, run_underlying Try.underlying69]
theorem clear68 (w : World) (ty : TypeId) : (Builtin.clear_ #[68] ty #[.map none]).run Try.prog w = .ok (.tuple #[]) w := by simp [Builtin.clear_, run_underlying Try.underlying68]

theorem Kp.st {S : Nat → Prop} {w W : World} (h : Kp S w W) (p : Addr) (u : Value) (hp : S p.block) : Kp S w (W.setCell p u) := h.trans (Kp.setCell _ _ _ hp)
theorem Kp.dn {S : Nat → Prop} {w W : World} (h : Kp S w W) (n : Nat) : Kp S w (W.drewN n) := h.trans (Kp.drewN _ _ _)

/-- The cells of a frame. -/
abbrev frameC (kind : Int) (clustered : Bool) (id e hop : Int) : Array Value :=
  (Value.int .u8 kind :: Value.int .u32 id :: Value.int .i64 e :: Value.int .i64 hop :: Value.bool clustered :: Value.slice none 0 0 :: Value.slice none 0 0 :: Value.slice none 0 0 :: Value.bool false :: Value.int .u32 0 :: Value.int .u32 0 :: []).toArray

/-- A store of what is there turns nothing. -/
theorem setCell_same {w : World} {b i : Nat} {c : Array Value} {t : TypeId} {v : Value} (h : w.heap[b]? = some (.cells c t)) (hv : c[i]? = some v) : w.setCell ⟨b, i, none⟩ v = w := by
  have e : c.setIfInBounds i v = c := by
    apply Array.ext_getElem?
    intro k
    rw [Array.getElem?_setIfInBounds]
    split
    · rename_i hk
      subst hk
      rw [hv, if_pos (Array.getElem?_eq_some_iff.1 hv).1]
    · rfl
  have : w.heap.modify b (fun o => match o with | .cells c e fr => .cells (c.setIfInBounds i v) e fr | o => o) = w.heap := by
    apply Array.ext_getElem?
    intro k
    rw [Array.getElem?_modify]
    split
    · rename_i hk
      subst hk
      rw [h]
      simp [e]
    · rfl
  rw [setCell_eq]
  exact mapBlock_id w b _ fun c' e' fr hb => by
    rw [h] at hb
    injection hb with hb
    injection hb with hc
    subst hc
    exact e

set_option maxHeartbeats 2000000 in
theorem tick1 (nb : Nat) (id head : Int) (d : List Int) (ex hp e : Int) (tp : Bool) (w : World) (p : Option Addr) (cap : Nat) (ev : Value) (fb hb ab : Nat)
    (h1 : w.heap[nb]? = some (.cells (nodeC id head (.slice p d.length cap) ev fb hb ab ex hp tp) 72)) (h3 : w.heap[hb]? = some (.map #[] 0)) (h4 : w.heap[ab]? = some (.map #[] 0)) :
    Calls Try.prog 22 #[.pointer (some ⟨nb, 0, none⟩), .int .i64 e, .int .i64 1] w fun r w' => ∃ fk, r = .returned (.tuple #[.slice (some ⟨fk, 0, none⟩) 1 1, .slice none 0 0]) ∧
      w'.heap[fk]? = some (.cells (frameC 1 true id e 1) 62) ∧ w'.heap[nb]? = some (.cells (nodeC id head (.slice p d.length cap) ev fb hb ab e 1 true) 72) ∧ Kp (fun i => i = nb) w w' := by
  have f : ∀ i, w.frozen? ⟨nb, i, none⟩ = false := fun i => frozen_of_heap h1
  have c0 : w.cell? ⟨nb, 0, none⟩ = some (.int .u32 id) := cell_of_heap h1 rfl
  have c6 : w.cell? ⟨nb, 6, none⟩ = some (.bool tp) := cell_of_heap h1 rfl
  have c11 : w.cell? ⟨nb, 11, none⟩ = some (.map (some hb)) := cell_of_heap h1 rfl
  have c12 : w.cell? ⟨nb, 12, none⟩ = some (.map (some ab)) := cell_of_heap h1 rfl
  have nh : hb ≠ nb := fun e => by subst e; rw [h1] at h3; cases h3
  have na : ab ≠ nb := fun e => by subst e; rw [h1] at h4; cases h4
  have k6 : Kp (fun i => i = nb) w (w.setCell ⟨nb, 6, none⟩ (.bool true)) := Kp.setCell _ _ _ rfl
  have cl1 := fun ty => clear58 (w.setCell ⟨nb, 6, none⟩ (.bool true)) ty hb (k6.heap h3 nh)
  have cl2 := fun ty => clear58 (w.setCell ⟨nb, 6, none⟩ (.bool true)) ty ab (k6.heap h4 na)
  have HK1 : Hid (Kp (fun i => i = nb) w (w.setCell ⟨nb, 6, none⟩ (.bool true))) := k6
  have HH1 : Hid ((w.setCell ⟨nb, 6, none⟩ (.bool true)).heap[nb]? = some (.cells (nodeC id head (.slice p d.length cap) ev fb hb ab ex hp true) 72)) := heap_set_same h1 _
  clear k6
  go_enter Try.func22, Try.ntmps22
  go_wp2_with fail
  clear cl1 cl2 c0 c6 c11 c12 f
  generalize w.setCell ⟨nb, 6, none⟩ (.bool true) = W1 at HK1 HH1 ⊢
  have f : ∀ i, W1.frozen? ⟨nb, i, none⟩ = false := fun i => frozen_of_heap HH1.out
  have c13 : W1.cell? ⟨nb, 13, none⟩ = some (.bool false) := cell_of_heap HH1.out rfl
  have c14 : W1.cell? ⟨nb, 14, none⟩ = some (.bool false) := cell_of_heap HH1.out rfl
  have c15 : W1.cell? ⟨nb, 15, none⟩ = some (.slice none 0 0) := cell_of_heap HH1.out rfl
  have s13 : W1.setCell ⟨nb, 13, none⟩ (.bool false) = W1 := setCell_same HH1.out rfl
  have s14 : W1.setCell ⟨nb, 14, none⟩ (.bool false) = W1 := setCell_same HH1.out rfl
  have s15 : W1.setCell ⟨nb, 15, none⟩ (.slice none 0 0) = W1 := setCell_same HH1.out rfl
  go_region
  clear c13 c14 c15 s13 s14 s15
  have c16 : W1.cell? ⟨nb, 16, none⟩ = some (.int .u8 0) := cell_of_heap HH1.out rfl
  have s16 : W1.setCell ⟨nb, 16, none⟩ (.int .u8 0) = W1 := setCell_same HH1.out rfl
  have c17 : W1.cell? ⟨nb, 17, none⟩ = some (.int .u32 0) := cell_of_heap HH1.out rfl
  have s17 : W1.setCell ⟨nb, 17, none⟩ (.int .u32 0) = W1 := setCell_same HH1.out rfl
  have c18 : W1.cell? ⟨nb, 18, none⟩ = some (.int .i64 0) := cell_of_heap HH1.out rfl
  have s18 : W1.setCell ⟨nb, 18, none⟩ (.int .i64 0) = W1 := setCell_same HH1.out rfl
  have c19 : W1.cell? ⟨nb, 19, none⟩ = some (.int .i64 0) := cell_of_heap HH1.out rfl
  have s19 : W1.setCell ⟨nb, 19, none⟩ (.int .i64 0) = W1 := setCell_same HH1.out rfl
  have c20 : W1.cell? ⟨nb, 20, none⟩ = some (.bool false) := cell_of_heap HH1.out rfl
  have s20 : W1.setCell ⟨nb, 20, none⟩ (.bool false) = W1 := setCell_same HH1.out rfl
  have c21 : W1.cell? ⟨nb, 21, none⟩ = some (.slice none 0 0) := cell_of_heap HH1.out rfl
  have s21 : W1.setCell ⟨nb, 21, none⟩ (.slice none 0 0) = W1 := setCell_same HH1.out rfl
  have c22 : W1.cell? ⟨nb, 22, none⟩ = some (.slice none 0 0) := cell_of_heap HH1.out rfl
  have s22 : W1.setCell ⟨nb, 22, none⟩ (.slice none 0 0) = W1 := setCell_same HH1.out rfl
  have c23 : W1.cell? ⟨nb, 23, none⟩ = some (.slice none 0 0) := cell_of_heap HH1.out rfl
  have s23 : W1.setCell ⟨nb, 23, none⟩ (.slice none 0 0) = W1 := setCell_same HH1.out rfl
  have c24 : W1.cell? ⟨nb, 24, none⟩ = some (.bool false) := cell_of_heap HH1.out rfl
  have s24 : W1.setCell ⟨nb, 24, none⟩ (.bool false) = W1 := setCell_same HH1.out rfl
  have c25 : W1.cell? ⟨nb, 25, none⟩ = some (.int .u32 0) := cell_of_heap HH1.out rfl
  have s25 : W1.setCell ⟨nb, 25, none⟩ (.int .u32 0) = W1 := setCell_same HH1.out rfl
  have c26 : W1.cell? ⟨nb, 26, none⟩ = some (.int .u32 0) := cell_of_heap HH1.out rfl
  have s26 : W1.setCell ⟨nb, 26, none⟩ (.int .u32 0) = W1 := setCell_same HH1.out rfl
  have c27 : W1.cell? ⟨nb, 27, none⟩ = some (.bool false) := cell_of_heap HH1.out rfl
  have s27 : W1.setCell ⟨nb, 27, none⟩ (.bool false) = W1 := setCell_same HH1.out rfl
  have c28 : W1.cell? ⟨nb, 28, none⟩ = some (.bool false) := cell_of_heap HH1.out rfl
  have s28 : W1.setCell ⟨nb, 28, none⟩ (.bool false) = W1 := setCell_same HH1.out rfl
  have c29 : W1.cell? ⟨nb, 29, none⟩ = some (.map none) := cell_of_heap HH1.out rfl
  have c32 : W1.cell? ⟨nb, 32, none⟩ = some (.map none) := cell_of_heap HH1.out rfl
  have c33 : W1.cell? ⟨nb, 33, none⟩ = some (.map none) := cell_of_heap HH1.out rfl
  have c34 : W1.cell? ⟨nb, 34, none⟩ = some (.map none) := cell_of_heap HH1.out rfl
  have c0 : W1.cell? ⟨nb, 0, none⟩ = some (.int .u32 id) := cell_of_heap HH1.out rfl
  have c4 : W1.cell? ⟨nb, 4, none⟩ = some (.int .i64 ex) := cell_of_heap HH1.out rfl
  have c5 : W1.cell? ⟨nb, 5, none⟩ = some (.int .i64 hp) := cell_of_heap HH1.out rfl
  have c6 : W1.cell? ⟨nb, 6, none⟩ = some (.bool true) := cell_of_heap HH1.out rfl
  have q63 := clear63
  have q66 := clear66
  have q69 := clear69
  have q68 := clear68
  go_wp2_with fail
  refine wp_loop_rounds 2 ?_
  rw [rounds_succ]
  have hlt : nb < W1.heap.size := heap_lt HH1.out
  go_wp2_with fail
  rw [rounds_succ]
  go_wp2_with fail
  go_ret2
  refine ⟨W1.heap.size, rfl, ?_, ?_, ?_⟩
  · exact heapAt_drew (heapAt_new (by simp))
  · exact heapAt_drew (heapAt_alloc (heap_set_same (heap_set_same HH1.out _) _))
  · exact (((HK1.out.st _ _ rfl).st _ _ rfl).al _).dr

/-- Where the node takes no part: nil and nil. -/
def Off (ex e : Int) (tp : Bool) : Prop := e ≠ ex ∨ tp = false

set_option maxHeartbeats 2000000 in
theorem tickOff (nb : Nat) (id head : Int) (d : List Int) (ex hp e hop : Int) (tp : Bool) (w : World) (p : Option Addr) (cap : Nat) (ev : Value) (fb hb ab : Nat) (hh : hop ≠ 1) (hoff : Off ex e tp)
    (h1 : w.heap[nb]? = some (.cells (nodeC id head (.slice p d.length cap) ev fb hb ab ex hp tp) 72)) :
    Calls Try.prog 22 #[.pointer (some ⟨nb, 0, none⟩), .int .i64 e, .int .i64 hop] w fun r w' => r = .returned (.tuple #[.slice none 0 0, .slice none 0 0]) ∧
      w'.heap[nb]? = some (.cells (nodeC id head (.slice p d.length cap) ev fb hb ab e hop false) 72) ∧ Kp (fun i => i = nb) w w' := by
  have f : ∀ i, w.frozen? ⟨nb, i, none⟩ = false := fun i => frozen_of_heap h1
  have c4 : w.cell? ⟨nb, 4, none⟩ = some (.int .i64 ex) := cell_of_heap h1 rfl
  have c5 : w.cell? ⟨nb, 5, none⟩ = some (.int .i64 hp) := cell_of_heap h1 rfl
  have c6 : w.cell? ⟨nb, 6, none⟩ = some (.bool tp) := cell_of_heap h1 rfl
  have hb1 : (hop == 1) = false := beq_eq_false_iff_ne.2 hh
  have H1 : Hid (w.heap[nb]? = some (.cells (nodeC id head (.slice p d.length cap) ev fb hb ab ex hp tp) 72)) := h1
  by_cases hx : e = ex
  · have htp : tp = false := by rcases hoff with h | h; exact absurd hx h; exact h
    have hxb : (e != ex) = false := by simpa using hx
    subst htp
    have HX : Hid (e = ex) := hx
    clear h1 hoff hx hh
    go_enter Try.func22, Try.ntmps22
    go_wp2_with fail
    go_ret2
    exact ⟨rfl, heap_set_same (heap_set_same H1.out _) _, ((Kp.refl (fun i => i = nb) w).st _ _ rfl).st _ _ rfl⟩
  · have hxb : (e != ex) = true := by simpa using hx
    clear h1 hoff hx hh
    go_enter Try.func22, Try.ntmps22
    go_wp2_with fail
    go_ret2
    exact ⟨rfl, heap_set_same (heap_set_same (heap_set_same H1.out _) _) _, (((Kp.refl (fun i => i = nb) w).st _ _ rfl).st _ _ rfl).st _ _ rfl⟩

set_option maxHeartbeats 2000000 in
/-- Round 3 at a node that is not the head: nil and nil. -/
theorem tick3 (nb : Nat) (id head : Int) (d : List Int) (hp e : Int) (w : World) (p : Option Addr) (cap : Nat) (ev : Value) (fb hb ab : Nat) (hne : id ≠ head)
    (h1 : w.heap[nb]? = some (.cells (nodeC id head (.slice p d.length cap) ev fb hb ab e hp true) 72)) :
    Calls Try.prog 22 #[.pointer (some ⟨nb, 0, none⟩), .int .i64 e, .int .i64 3] w fun r w' => r = .returned (.tuple #[.slice none 0 0, .slice none 0 0]) ∧
      w'.heap[nb]? = some (.cells (nodeC id head (.slice p d.length cap) ev fb hb ab e 3 true) 72) ∧ Kp (fun i => i = nb) w w' := by
  have f : ∀ i, w.frozen? ⟨nb, i, none⟩ = false := fun i => frozen_of_heap h1
  have c0 : w.cell? ⟨nb, 0, none⟩ = some (.int .u32 id) := cell_of_heap h1 rfl
  have c1 : w.cell? ⟨nb, 1, none⟩ = some (.int .u32 head) := cell_of_heap h1 rfl
  have c4 : w.cell? ⟨nb, 4, none⟩ = some (.int .i64 e) := cell_of_heap h1 rfl
  have c5 : w.cell? ⟨nb, 5, none⟩ = some (.int .i64 hp) := cell_of_heap h1 rfl
  have c6 : w.cell? ⟨nb, 6, none⟩ = some (.bool true) := cell_of_heap h1 rfl
  have hxb : (e != e) = false := by simp
  have hnb : (id == head) = false := beq_eq_false_iff_ne.2 hne
  have H1 : Hid (w.heap[nb]? = some (.cells (nodeC id head (.slice p d.length cap) ev fb hb ab e hp true) 72)) := h1
  clear h1 hne
  go_enter Try.func22, Try.ntmps22
  go_wp2_with fail
  go_quiet (fail)
  go_wp2_with fail
  refine wp_loop_rounds 1 ?_
  rw [rounds_succ]
  go_wp2_with fail
  go_ret2
  exact ⟨rfl, heap_set_same (heap_set_same H1.out _) _, (((Kp.refl (fun i => i = nb) w).st _ _ rfl).st _ _ rfl).dn _⟩
end Go.Proofs.Qxb6609273a
