/- The words in which the walks of this seat speak of memory: 'Kp S w w'': of the old blocks only those in S may have turned; 'Row B w p d': a slice that leads into block B or a later one holds the numbers d. -/
import Derived.Test.Qxb6609273aSortLess
import Derived.Sort.Grow
import Derived.BigQuiet
import Derived.Deep.QuietTactic
namespace Go.Proofs.Qxb6609273a
open Go.RowKit Go.Sort

/-- Of the blocks of w only those in S may have turned in w'; blocks may have been laid behind; the streams are as they were. -/
structure Kp (S : Nat → Prop) (w w' : World) : Prop where
  os : w'.os = w.os
  tape : w'.tape = w.tape
  output : w'.output = w.output
  size : w.heap.size ≤ w'.heap.size
  block : ∀ k, k < w.heap.size → ¬ S k → w'.heap[k]? = w.heap[k]?

/-- No block. -/
def noB : Nat → Prop := fun _ => False

theorem Kp.refl (S : Nat → Prop) (w : World) : Kp S w w := ⟨rfl, rfl, rfl, Nat.le_refl _, fun _ _ _ => rfl⟩
theorem Kp.trans {S : Nat → Prop} {a b c : World} (h : Kp S a b) (k : Kp S b c) : Kp S a c :=
  ⟨k.os.trans h.os, k.tape.trans h.tape, k.output.trans h.output, Nat.le_trans h.size k.size, fun i hi hs => (k.block i (Nat.lt_of_lt_of_le hi h.size) hs).trans (h.block i hi hs)⟩
theorem Kp.mono {S T : Nat → Prop} {a b : World} (h : Kp S a b) (hs : ∀ k, S k → T k) : Kp T a b := ⟨h.os, h.tape, h.output, h.size, fun i hi ht => h.block i hi fun x => ht (hs i x)⟩
/-- Where S speaks of the new blocks alone, seen from a. -/
theorem Kp.transNew {S T : Nat → Prop} {a b c : World} (h : Kp S a b) (k : Kp T b c) (hT : ∀ i, i < a.heap.size → T i → S i) : Kp S a c :=
  ⟨k.os.trans h.os, k.tape.trans h.tape, k.output.trans h.output, Nat.le_trans h.size k.size, fun i hi hs => (k.block i (Nat.lt_of_lt_of_le hi h.size) (fun x => hs (hT i hi x))).trans (h.block i hi hs)⟩
theorem Kp.toBelow {S : Nat → Prop} {B : Nat} {a b : World} (h : Kp S a b) (hB : B ≤ a.heap.size) (hs : ∀ k, k < B → ¬ S k) : RowKit.Below B a b :=
  ⟨h.os, h.tape, h.output, h.size, fun k hk => h.block k (Nat.lt_of_lt_of_le hk hB) (hs k hk)⟩
theorem Kp.ofBelow {a b : World} (h : RowKit.Below a.heap.size a b) : Kp noB a b := ⟨h.os, h.tape, h.output, h.size, fun k hk _ => h.block k hk⟩
theorem Kp.cell {S : Nat → Prop} {w w' : World} (h : Kp S w w') {p : Addr} (hp : p.block < w.heap.size) (hs : ¬ S p.block) : w'.cell? p = w.cell? p := World.cell?_of_block (w := w) (h.block p.block hp hs)
theorem Kp.frozen {S : Nat → Prop} {w w' : World} (h : Kp S w w') {p : Addr} (hp : p.block < w.heap.size) (hs : ¬ S p.block) : w'.frozen? p = w.frozen? p := World.frozen?_of_block (w := w) (h.block p.block hp hs)
theorem Kp.alloc (S : Nat → Prop) (w : World) (o : Obj) : Kp S w (w.alloc o) := ⟨rfl, rfl, rfl, by simp, fun k hk _ => Below.heap_alloc _ _ _ hk⟩
theorem Kp.drewN (S : Nat → Prop) (w : World) (n : Nat) : Kp S w (w.drewN n) := ⟨rfl, rfl, rfl, Nat.le_refl _, fun _ _ _ => rfl⟩
theorem Kp.setCell {S : Nat → Prop} (w : World) (p : Addr) (u : Value) (hp : S p.block) : Kp S w (w.setCell p u) :=
  ⟨rfl, rfl, rfl, by simp [World.setCell], fun k _ hk => Below.heap_setCell _ _ _ _ (fun e => hk (e ▸ hp))⟩
theorem Kp.grow (S : Nat → Prop) (w : World) (os : Array Obj) : Kp S w (grow w os) := ⟨rfl, rfl, rfl, by simp, fun k hk _ => heap_grow_old w os hk⟩
theorem Kp.putRow {S : Nat → Prop} (w : World) (n blk off : Nat) (d : Array Int) (h : S blk) : Kp S w (putRow encU (Sort.ahead w n) blk off d) :=
  ⟨rfl, rfl, rfl, by simp, fun k _ hk => by
    have : blk ≠ k := fun e => hk (e ▸ h)
    simp [Sort.putRow, mapBlock, Sort.ahead, Array.getElem?_modify, this]⟩
theorem Kp.grown {S : Nat → Prop} {w w' : World} {row : Option Nat} (hg : w.grownBy w' row) (hr : ∀ k, row = some k → S k) : Kp S w w' :=
  ⟨hg.os, hg.tape, hg.output, hg.size, fun k hk hs => hg.block k hk (fun e => hs (hr k e.symm))⟩

/-- Does the slice's address lie in block k? -/
def inRow (p : Option Addr) (k : Nat) : Prop := ∃ a, p = some a ∧ a.block = k

/-- The slice holds these numbers, in memory that may be written, in block B or a later one. -/
def Row (B : Nat) (w : World) (p : Option Addr) (d : List Int) : Prop :=
  d = [] ∨ ∃ b off, p = some ⟨b, off, none⟩ ∧ B ≤ b ∧ b < w.heap.size ∧ Holds encU w b off d.toArray

theorem Row.kept {S : Nat → Prop} {B : Nat} {w w' : World} {p : Option Addr} {d : List Int} (h : Row B w p d) (k : Kp S w w') (hs : ∀ i, inRow p i → ¬ S i) : Row B w' p d := by
  rcases h with h | ⟨b, off, rfl, hB, hb, hH⟩
  · exact .inl h
  · have hsb : ¬ S b := hs b ⟨_, rfl, rfl⟩
    exact .inr ⟨b, off, rfl, hB, Nat.lt_of_lt_of_le hb k.size, fun j hj => ⟨by rw [k.cell (p := ⟨b, off + j, none⟩) hb hsb]; exact (hH j hj).1, by rw [k.frozen (p := ⟨b, off + j, none⟩) hb hsb]; exact (hH j hj).2⟩⟩
theorem Row.mono {B B' : Nat} {w : World} {p : Option Addr} {d : List Int} (h : Row B w p d) (hB : B' ≤ B) : Row B' w p d := by
  rcases h with h | ⟨b, off, rfl, hb, r⟩
  · exact .inl h
  · exact .inr ⟨b, off, rfl, by omega, r⟩
theorem Row.nil (B : Nat) (w : World) (p : Option Addr) : Row B w p [] := .inl rfl

/-- The numbers of a slice that came in. -/
def lst (z : Nat → Int) (n : Nat) : List Int := (List.range n).map z
@[simp] theorem lst_length (z : Nat → Int) (n : Nat) : (lst z n).length = n := by simp [lst]
theorem lst_get (z : Nat → Int) (n i : Nat) (h : i < n) : (lst z n).toArray[i]! = z i := by
  rw [getElem!_pos _ i (by simpa using h)]
  simp [lst]

theorem IsSeq.kept {k : IntKind} {w w' : World} {a : Option Addr} {len : Nat} {z : Nat → Int} (h : IsSeq k w a len z) (hb : RowKit.Below w.heap.size w w') : IsSeq k w' a len z := by
  obtain ⟨h1, h2, h3⟩ := h
  refine ⟨h1, h2, ?_⟩
  rcases h3 with h3 | ⟨b, off, rfl, hlt, hc⟩
  · exact .inl h3
  · exact .inr ⟨b, off, rfl, Nat.lt_of_lt_of_le hlt hb.size, fun i hi => ⟨by rw [hb.cell (p := ⟨b, off + i, none⟩) hlt]; exact (hc i hi).1, (hc i hi).2⟩⟩

end Go.Proofs.Qxb6609273a
