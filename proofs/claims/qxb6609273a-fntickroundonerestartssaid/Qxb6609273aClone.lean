/- slices.Clone at []NID; slices.Sort of a row, in the words of this seat. -/
import Derived.Test.Qxb6609273aCopies2
import Derived.Test.Qxb6609273aSortTop
import Derived.Lib.SliceRun
namespace Go.Proofs.Qxb6609273a
open Go.RowKit Go.Sort
open Go.ChangeShapes Go.WideShapes Go.ChangeAt

set_option maxHeartbeats 400000 in
theorem clone_nil (n c : Nat) (w : World) : Calls Try.prog 28 #[.slice none n c] w fun e w' => e = .returned (.slice none 0 0) ∧ w' = w := by
  have q := nil30
  go_enter Try.func28, Try.ntmps28
  go_wp2
  go_ret
  exact ⟨rfl, rfl⟩

theorem row_of_owns {w : World} {base : Nat} {v : Value} {d : List Int} (h : w.ownsRow base 34 1 v d.length (d.map encU)) : ∃ p cap, v = .slice p d.length cap ∧ Row base w p d ∧ ∀ k, inRow p k → base ≤ k ∧ k < w.heap.size := by
  obtain ⟨_, h | ⟨g, cap, cur, rfl, hg, hh, h1, h2, h3, h4⟩⟩ := h
  · obtain ⟨rfl, h0⟩ := h
    obtain rfl := List.length_eq_zero_iff.1 h0
    exact ⟨none, 0, rfl, .inl rfl, fun k hk => (by obtain ⟨_, h, _⟩ := hk; cases h)⟩
  · have hlt : g < w.heap.size := (Array.getElem?_eq_some_iff.1 hh).1
    refine ⟨_, cap, rfl, .inr ⟨g, 0, rfl, hg, hlt, fun j hj => ?_⟩, fun k hk => (by obtain ⟨_, h, h2⟩ := hk; injection h with h; subst h; simp only at h2; omega)⟩
    have hj' : j < d.length := by simpa using hj
    refine ⟨?_, by simp [World.frozen?, hh]⟩
    have e : (cur.toList.take (d.length * 1))[j]? = (d.map encU)[j]? := by rw [h4]
    rw [List.getElem?_take_of_lt (by omega)] at e
    simp only [World.cell?, hh, Nat.zero_add]
    simp only [Option.isSome_none, Bool.false_eq_true, if_false]
    rw [← Array.getElem?_toList, e]
    simp [hj']

set_option maxHeartbeats 2000000 in
set_option maxRecDepth 100000 in
theorem clone_some (x : Addr) (c : Nat) (d : List Int) (B : Nat) (w : World) (hl : d.length ≤ 4096) (h : Row B w (some x) d) :
    Calls Try.prog 28 #[.slice (some x) d.length c] w fun e w' => ∃ p cap, e = .returned (.slice p d.length cap) ∧ Row w.heap.size w' p d ∧ (∀ k, inRow p k → w.heap.size ≤ k ∧ k < w'.heap.size) ∧ RowKit.Below w.heap.size w w' := by
  have q := nil30
  have hc : ∀ j u, (d.map encU)[j]? = some u → w.cell? (x.add j) = some u := by
    intro j u hj
    rcases h with h | ⟨b, off, hx, _, _, hH⟩
    · subst h; simp at hj
    · injection hx with hx
      subst hx
      simp only [List.getElem?_map, Option.map_eq_some_iff] at hj
      obtain ⟨y, hy, rfl⟩ := hj
      obtain ⟨hlt, hy'⟩ := List.getElem?_eq_some_iff.1 hy
      rw [add_plain, (hH j (by simpa using hlt)).1]
      rw [getElem!_pos d.toArray j (by simpa using hlt)]
      simp [hy']
  have A : Hid (∀ j u, (d.map encU)[j]? = some u → w.cell? (x.add j) = some u) := hc
  have hd : (d.map encU).length = d.length * 1 := by simp
  have h1 : ∀ u ∈ d.map encU, u.oneCell' = true := by
    intro u hu
    simp only [List.mem_map] at hu
    obtain ⟨y, _, rfl⟩ := hu
    rfl
  clear hc h
  generalize hnews : d.map encU = news at *
  generalize hn : d.length = n at *
  obtain ⟨i0, hi, hi2⟩ : ∃ i0, Try.prog.info? 34 = some i0 ∧ (i0.zero = some (.int .u32 0) ∧ i0.size = 1 ∧ i0.bytes = 4) := ⟨_, rfl, rfl, rfl, rfl⟩
  obtain ⟨hz, hs1, hby⟩ := hi2
  go_enter Try.func28, Try.ntmps28
  go_wp2_with (at_builtin; refine wpList_append_own _ rfl _ _ 30 rfl w.heap.size 34 i0 (.int .u32 0) 1 4 Try.underlying30 hi hz hs1 hby rfl (by decide) _ _ _ rfl (World.ownsRow_made w #[] 0 (Nat.le_refl _) (Nat.zero_le _) (by simp)) x n c news rfl ?qc1 ?qc2 ?qc3 ?qc4 ?qc5 ?qc6 ?_)
  case qc1 => exact hd
  case qc2 =>
    intro j u hj
    have := A.out j u hj
    rw [World.cell?_of_block (w := w) (Below.heap_alloc w _ _ (cell_lt this))]
    exact this
  case qc3 => exact h1
  case qc4 => unfold maxLen; omega
  case qc5 => omega
  case qc6 => simp
  intro v' w1 hown hgrow hnil
  have HO : Hid (w1.ownsRow w.heap.size 34 1 v' n news) := hown
  have HG : Hid (RowKit.Below w.heap.size w w1) := ((RowKit.Below.refl _ w).alloc (Nat.le_refl _) _).grown hgrow (by simp) (by intro k hk; simp [Value.ownBlock] at hk; omega)
  clear hown hgrow hnil
  go_wp2
  go_ret
  have ho := HO.out
  rw [← hnews, ← hn] at ho
  obtain ⟨p, cap, rfl, hr, hk⟩ := row_of_owns ho
  exact ⟨p, cap, by rw [← hn]; rfl, hr, hk, HG.out⟩

/-- Clone of a slice that holds d: d again, in memory of the call's own. -/
theorem clone_any (p : Option Addr) (c : Nat) (d : List Int) (B : Nat) (w : World) (hl : d.length ≤ 4096) (h : Row B w p d) :
    Calls Try.prog 28 #[.slice p d.length c] w fun e w' => ∃ p' cap, e = .returned (.slice p' d.length cap) ∧ Row w.heap.size w' p' d ∧ (∀ k, inRow p' k → w.heap.size ≤ k ∧ k < w'.heap.size) ∧ RowKit.Below w.heap.size w w' := by
  cases p with
  | some x => exact clone_some x c d B w hl h
  | none =>
    have h0 : d = [] := by
      rcases h with h | ⟨b, off, hx, _⟩
      · exact h
      · cases hx
    subst h0
    refine (clone_nil 0 c w).mono ?_
    rintro e w' ⟨rfl, rfl⟩
    exact ⟨none, 0, rfl, .inl rfl, fun k hk => (by obtain ⟨_, h, _⟩ := hk; cases h), RowKit.Below.refl _ _⟩

/-- The sort of a row: it holds the list ascending; nothing else turns. -/
theorem sort_row (p : Option Addr) (c : Nat) (d : List Int) (B : Nat) (w : World) (hl : d.length ≤ 4096) (h : Row B w p d) :
    Calls Try.prog 29 #[.slice p d.length c] w fun e w' => e = .returned (.tuple #[]) ∧ Row B w' p (srt d) ∧ Kp (inRow p) w w' := by
  by_cases h0 : d = []
  · subst h0
    refine (Srt.Sort_u_nil p c w).mono ?_
    rintro e w' ⟨rfl, rfl⟩
    exact ⟨rfl, .inl (by simp [srt]), Kp.refl _ _⟩
  · rcases h with h | ⟨b, off, rfl, hB, hb, hH⟩
    · exact absurd h h0
    refine (Srt.sorted b off c d w hH hb (by omega)).mono ?_
    rintro e w' ⟨rfl, n, os, rfl⟩
    refine ⟨rfl, .inr ⟨b, off, rfl, hB, by simp; omega, ?_⟩, ?_⟩
    · have hs : (srt d).toArray.size = d.toArray.size := by simp
      exact holds_grow encU _ os b off _ (by simpa using hb) (holds_putRow encU _ b off _ _ (holds_ahead encU w n b off _ hH) hs)
    · exact (Kp.putRow w n b off _ ⟨_, rfl, rfl⟩).trans (Kp.grow _ _ os)
end Go.Proofs.Qxb6609273a
