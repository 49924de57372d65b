/- The words that all proofs of this seat share: what a walk is told of a slice of integers (of bools) that came in. -/
import Derived.Test.Qxb6609273aRows
import Derived.WalkKit
import Derived.ProofKit
import Derived.OpenShut
import Derived.ChangeOld
import Derived.Below
import Derived.Deep.Grids
namespace Go.Proofs.Qxb6609273a
open Go.ChangeShapes Go.WideShapes Go.ChangeAt Go.RowKit

theorem own : ownKnob Try.prog.godebug = none := by kernel_rfl
theorem laidOut : laidOutB Try.prog = true := by kernel_rfl
theorem mixed : Try.prog.follows .mixedOrders = true := by kernel_rfl

/-- A slice of integers that came in, as the walks want it: of length 0; or a plain address below the heap's end, a number a cell, each fitting its kind. -/
def IsSeq (k : IntKind) (w : World) (a : Option Addr) (len : Nat) (z : Nat → Int) : Prop :=
  len ≤ maxLen ∧ (a = none → len = 0) ∧ (len = 0 ∨ ∃ b off, a = some ⟨b, off, none⟩ ∧ b < w.heap.size ∧ ∀ i, i < len → w.cell? ⟨b, off + i, none⟩ = some (.int k (z i)) ∧ (Lit.int k (z i)).wf = true)

/-- The same for a slice of bools. -/
def IsBools (w : World) (a : Option Addr) (len : Nat) (z : Nat → Bool) : Prop :=
  len ≤ maxLen ∧ (len = 0 ∨ ∃ b off, a = some ⟨b, off, none⟩ ∧ b < w.heap.size ∧ ∀ i, i < len → w.cell? ⟨b, off + i, none⟩ = some (.bool (z i)))

theorem cell_lt {w : World} {a : Addr} {v : Value} (h : w.cell? a = some v) : a.block < w.heap.size := by
  unfold World.cell? at h
  split at h
  · rename_i hb
    exact (Array.getElem?_eq_some_iff.1 hb).1
  · simp at h

theorem plain_of {w : World} {x : Addr} {v : Value} (h : w.cell? (x.add 0) = some v) : ∃ b off, x = ⟨b, off, none⟩ := by
  obtain ⟨b, off, spot⟩ := x
  have hs : spot = none := by simpa [Addr.add] using World.cell?_spot h
  exact ⟨b, off, by rw [hs]⟩

theorem seq_of {k : IntKind} {w : World} {x : Addr} {len cap : Nat} {zs : List Int} (hl : len ≤ cap) (hm : cap ≤ maxLen) (hz : zs.length = cap)
    (hc : ∀ i, i < zs.length → w.cell? (x.add i) = some (.int k (zs.getD i 0))) (hw : ∀ n ∈ zs, (Lit.int k n).wf = true) : IsSeq k w (some x) len (fun i => zs.getD i 0) := by
  refine ⟨by omega, fun h => (by cases h), ?_⟩
  by_cases h0 : len = 0
  · exact .inl h0
  obtain ⟨b, off, rfl⟩ := plain_of (hc 0 (by omega))
  refine .inr ⟨b, off, rfl, cell_lt (hc 0 (by omega)), fun i hi => ⟨?_, ?_⟩⟩
  · rw [← add_plain]; exact hc i (by omega)
  · refine hw _ ?_
    show zs.getD i 0 ∈ zs
    rw [List.getD_eq_getElem?_getD, List.getElem?_eq_getElem (by omega)]
    exact List.getElem_mem _

theorem bools_of {w : World} {x : Addr} {len cap : Nat} {B : Nat → Bool} (hl : len ≤ cap) (hm : cap ≤ maxLen) (hc : ∀ i, i < cap → w.cell? (x.add i) = some (.bool (B i))) : IsBools w (some x) len B := by
  refine ⟨by omega, ?_⟩
  by_cases h0 : len = 0
  · exact .inl h0
  obtain ⟨b, off, rfl⟩ := plain_of (hc 0 (by omega))
  exact .inr ⟨b, off, rfl, cell_lt (hc 0 (by omega)), fun i hi => by rw [← add_plain]; exact hc i (by omega)⟩

theorem seq_nil (k : IntKind) (w : World) : IsSeq k w none 0 (fun _ => 0) := ⟨Nat.zero_le _, fun _ => rfl, .inl rfl⟩
theorem bools_nil (w : World) : IsBools w none 0 (fun _ => false) := ⟨Nat.zero_le _, .inl rfl⟩

end Go.Proofs.Qxb6609273a
