/- What is said of a Node in memory. -/
import Derived.Test.Qxb6609273aClone
namespace Go.Proofs.Qxb6609273a
open Go.RowKit Go.Sort

theorem Kp.al {S : Nat → Prop} {w W : World} (h : Kp S w W) (o : Obj) : Kp S w (W.alloc o) := h.trans (Kp.alloc _ _ _)
theorem Kp.dr {S : Nat → Prop} {w W : World} (h : Kp S w W) : Kp S w W.drew := h.trans (Kp.drewN _ _ 1)
theorem Kp.bl {w W W' : World} (h : Kp noB w W) (hb : RowKit.Below W.heap.size W W') : Kp noB w W' := h.trans (Kp.ofBelow hb)

/-- The 49 cells of a node that has received nothing: all but these ten are as NewNode laid them. -/
abbrev nodeC (id head : Int) (mv ev : Value) (fb hb ab : Nat) (ex hp : Int) (tp : Bool) : Array Value :=
  ((Value.int .u32 id) :: (Value.int .u32 head) :: mv :: (Value.slice none 0 0) :: (Value.int .i64 ex) :: (Value.int .i64 hp) :: (Value.bool tp) :: ev :: (Value.map none) :: (Value.map (some fb)) :: (Value.slice none 0 0) :: (Value.map (some hb)) :: (Value.map (some ab)) :: (Value.bool false) :: (Value.bool false) :: (Value.slice none 0 0) :: (Value.int .u8 0) :: (Value.int .u32 0) :: (Value.int .i64 0) :: (Value.int .i64 0) :: (Value.bool false) :: (Value.slice none 0 0) :: (Value.slice none 0 0) :: (Value.slice none 0 0) :: (Value.bool false) :: (Value.int .u32 0) :: (Value.int .u32 0) :: (Value.bool false) :: (Value.bool false) :: (Value.map none) :: (Value.slice none 0 0) :: (Value.map none) :: (Value.map none) :: (Value.map none) :: (Value.map none) :: (Value.int .u8 0) :: (Value.int .u32 0) :: (Value.int .i64 0) :: (Value.int .i64 0) :: (Value.bool false) :: (Value.slice none 0 0) :: (Value.slice none 0 0) :: (Value.slice none 0 0) :: (Value.bool false) :: (Value.int .u32 0) :: (Value.int .u32 0) :: (Value.int .i64 0) :: (Value.map none) :: (Value.int .i64 3) :: []).toArray

/-- A node that has received nothing: its member list holds d, its three maps are empty, all of it lies in block B or later ones, its own block apart from what it leads to. -/
def NodeOk (B : Nat) (w : World) (nb : Nat) (id head : Int) (d : List Int) (ex hp : Int) (tp : Bool) : Prop :=
  B ≤ nb ∧ ∃ (p : Option Addr) (cap : Nat) (ev : Value) (fb hb ab : Nat),
    w.heap[nb]? = some (.cells (nodeC id head (.slice p d.length cap) ev fb hb ab ex hp tp) 72) ∧
    w.heap[fb]? = some (.map #[] 0) ∧ w.heap[hb]? = some (.map #[] 0) ∧ w.heap[ab]? = some (.map #[] 0) ∧ B ≤ fb ∧ B ≤ hb ∧ B ≤ ab ∧
    Row B w p d ∧ ∀ k, inRow p k → B ≤ k ∧ k ≠ nb ∧ k ≠ fb ∧ k ≠ hb ∧ k ≠ ab

theorem heap_lt {w : World} {k : Nat} {o : Obj} (h : w.heap[k]? = some o) : k < w.heap.size := (Array.getElem?_eq_some_iff.1 h).1
theorem Kp.heap {S : Nat → Prop} {w w' : World} {k : Nat} {o : Obj} (h : Kp S w w') (hk : w.heap[k]? = some o) (hs : ¬ S k) : w'.heap[k]? = some o := by
  rw [h.block k (heap_lt hk) hs, hk]

theorem NodeOk.kept {S : Nat → Prop} {B : Nat} {w w' : World} {nb : Nat} {id head : Int} {d : List Int} {ex hp : Int} {tp : Bool} (h : NodeOk B w nb id head d ex hp tp) (k : Kp S w w') (hs : ∀ i, S i → i < B) : NodeOk B w' nb id head d ex hp tp := by
  obtain ⟨h0, p, cap, ev, fb, hb, ab, h1, h2, h3, h4, b1, b2, b3, hr, hn⟩ := h
  have out : ∀ i, B ≤ i → ¬ S i := fun i hi hS => by have := hs i hS; omega
  exact ⟨h0, p, cap, ev, fb, hb, ab, k.heap h1 (out _ h0), k.heap h2 (out _ b1), k.heap h3 (out _ b2), k.heap h4 (out _ b3), b1, b2, b3, hr.kept k (fun i hi => out i (hn i hi).1), hn⟩

/-- The member list is sorted in place. -/
theorem NodeOk.sorted {B : Nat} {w w' : World} {nb : Nat} {id head : Int} {d : List Int} {ex hp : Int} {tp : Bool} {p : Option Addr} {cap : Nat} {ev : Value} {fb hb ab : Nat}
    (h0 : B ≤ nb) (h1 : w.heap[nb]? = some (.cells (nodeC id head (.slice p d.length cap) ev fb hb ab ex hp tp) 72))
    (h2 : w.heap[fb]? = some (.map #[] 0)) (h3 : w.heap[hb]? = some (.map #[] 0)) (h4 : w.heap[ab]? = some (.map #[] 0)) (b1 : B ≤ fb) (b2 : B ≤ hb) (b3 : B ≤ ab)
    (hn : ∀ k, inRow p k → B ≤ k ∧ k ≠ nb ∧ k ≠ fb ∧ k ≠ hb ∧ k ≠ ab) (hr : Row B w' p (srt d)) (k : Kp (inRow p) w w') : NodeOk B w' nb id head (srt d) ex hp tp :=
  ⟨h0, p, cap, ev, fb, hb, ab, by rw [srt_length]; exact k.heap h1 (fun x => (hn _ x).2.1 rfl), k.heap h2 (fun x => (hn _ x).2.2.1 rfl), k.heap h3 (fun x => (hn _ x).2.2.2.1 rfl), k.heap h4 (fun x => (hn _ x).2.2.2.2 rfl), b1, b2, b3, hr, hn⟩

/-- One cell of the node. -/
theorem cell_of_heap {w : World} {b i : Nat} {c : Array Value} {t : TypeId} {v : Value} (h : w.heap[b]? = some (.cells c t)) (hv : c[i]? = some v) : w.cell? ⟨b, i, none⟩ = some v := by
  simp [World.cell?, h, hv]
theorem frozen_of_heap {w : World} {b i : Nat} {c : Array Value} {t : TypeId} (h : w.heap[b]? = some (.cells c t)) : w.frozen? ⟨b, i, none⟩ = false := by
  simp [World.frozen?, h]
theorem heap_set_same {w : World} {b i : Nat} {c : Array Value} {t : TypeId} (h : w.heap[b]? = some (.cells c t)) (v : Value) : (w.setCell ⟨b, i, none⟩ v).heap[b]? = some (.cells (c.setIfInBounds i v) t) := by
  simp [World.setCell, Array.getElem?_modify, h]

theorem heapAt_alloc {W : World} {k : Nat} {o o' : Obj} (h : W.heap[k]? = some o) : (W.alloc o').heap[k]? = some o := by
  rw [Below.heap_alloc _ _ _ (heap_lt h), h]
theorem heapAt_new {W : World} {k : Nat} {o : Obj} (h : k = W.heap.size) : (W.alloc o).heap[k]? = some o := by
  subst h
  show (W.heap.push o)[W.heap.size]? = _
  simp
theorem heapAt_drew {W : World} {k : Nat} {o : Obj} (h : W.heap[k]? = some o) : W.drew.heap[k]? = some o := h
theorem heapAt_below {W W' : World} {k : Nat} {o : Obj} (hb : RowKit.Below W.heap.size W W') (h : W.heap[k]? = some o) : W'.heap[k]? = some o := by rw [hb.block k (heap_lt h), h]

theorem NodeOk.mono {B B' : Nat} {w : World} {nb : Nat} {id head : Int} {d : List Int} {ex hp : Int} {tp : Bool} (h : NodeOk B w nb id head d ex hp tp) (hB : B' ≤ B) : NodeOk B' w nb id head d ex hp tp := by
  obtain ⟨h0, p, cap, ev, fb, hb, ab, h1, h2, h3, h4, b1, b2, b3, hr, hn⟩ := h
  exact ⟨by omega, p, cap, ev, fb, hb, ab, h1, h2, h3, h4, by omega, by omega, by omega, hr.mono hB, fun k hk => ⟨by have := (hn k hk).1; omega, (hn k hk).2⟩⟩

/-- Behind NewNode's first statement, whatever its order: slot 7 leads to the node, its members not yet sorted; the boxed parameter's first cell is as it was. -/
def RegionOut (id head : Int) (d : List Int) (w : World) (s7 : Value) (wx : World) : Prop :=
  ∃ nb, s7 = .pointer (some ⟨nb, 0, none⟩) ∧ NodeOk (w.heap.size + 1) wx nb id head d 0 0 false ∧ Kp noB w wx ∧ wx.cell? ⟨w.heap.size, 0, none⟩ = some (.int .u32 head)

end Go.Proofs.Qxb6609273a
