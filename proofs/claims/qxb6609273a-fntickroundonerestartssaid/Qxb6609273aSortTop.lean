/- slices.Sort at []heartmesh.NID (uint32) over this program: turned to it from the guide's worked walks at int: slices.Sort. -/
import Derived.Test.Qxb6609273aSortLen
import Derived.Test.Qxb6609273aSortIns
import Derived.Test.Qxb6609273aSortPar
import Derived.Test.Qxb6609273aSortPiv
import Derived.Test.Qxb6609273aSortPeq
import Derived.Test.Qxb6609273aSortPrt
import Derived.Test.Qxb6609273aSortBrk
import Derived.Test.Qxb6609273aSortPdq
import Derived.Sort.AssemblyPlain
import Derived.Sort.WalkA14
namespace Go.Proofs.Qxb6609273a
open Go.RowKit Go.Sort

theorem calleesU : CalleesU where
  ins := Srt.insertionSort_u
  brk := Srt.breakPatterns_u
  piv := Srt.choosePivot_u
  par := Srt.partialInsertionSort_u
  peq := Srt.partitionEqualOrdered_u
  prt := Srt.partitionOrdered_u

theorem plainU : Plain13 where
  swo := swo_ltInt
  ins := insertionSort_holds
  par := partialInsertionSort_holds
  prt := partition_holds _
  peq := partitionEqual_holds _
  pdq := pdq_sorts _

def pdqWalkU : Prop := ∀ (blk off cap a b limit : Nat) (d : Array Int) (w : World), Holds (Value.int .u32) w blk off d → blk < w.heap.size → a ≤ b → b ≤ d.size → d.size < 4611686018427387904 → limit < 4611686018427387904 → Sort.Below ltInt a b d →
  Calls Try.prog 39 #[.slice (some ⟨blk, off, none⟩) d.size cap, .int .i64 a, .int .i64 b, .int .i64 limit] w fun e w' =>
    e = .returned (.tuple #[]) ∧ ∃ n os, w' = grow (putRow (Value.int .u32) (Sort.ahead w n) blk off (Sort.pdq ltInt d a b limit true true)) os

theorem pdqWalk_holds : pdqWalkU := fun blk off cap a b limit d w hH hb hab hbd hsz hl hB =>
  Srt.pdqsort_u calleesU plainU (b - a + 1) blk off cap a b limit d w (by omega) hH hb hab hbd hsz hl hB

set_option maxRecDepth 100000 in
theorem Srt.Sort_u (hpdq : pdqWalkU) (blk off cap : Nat) (d : Array Int) (w : World) (hH : Holds (Value.int .u32) w blk off d) (hblk : blk < w.heap.size) (hsz : d.size < 4611686018427387904) :
    Calls Try.prog 29 #[.slice (some ⟨blk, off, none⟩) d.size cap] w fun e w' => e = .returned (.tuple #[]) ∧ ∃ n os, w' = grow (putRow (Value.int .u32) (Sort.ahead w n) blk off (Sort.sort ltInt d)) os := by
  have HH : Hid (Holds (Value.int .u32) w blk off d) := hH
  clear hH
  have hLen : ∀ w, Calls Try.prog 40 #[.int .u64 (d.size : Int)] w fun e w' => e = .returned (.int .i64 (bitsLen d.size : Nat)) ∧ w' = w := fun w => by
    have h := Srt.bits_Len_u (d.size : Int) w (by omega) (by omega)
    rwa [Int.toNat_natCast, bitLen_eq _ (by omega)] at h
  have hk : bitsLen d.size ≤ 62 := (bitsLen_le_iff d.size 62).2 (by omega)
  go_enter Try.func29, Try.ntmps29
  go_wp2_with (first
    | (go_at_call 40; refine (hLen _).mono ?_; rintro e w' ⟨rfl, rfl⟩)
    | (go_at_call 39; refine (hpdq blk off cap 0 d.size (bitsLen d.size) d _ (by exact HH.out) (by exact hblk) (Nat.zero_le _) (Nat.le_refl _) hsz (by omega) (Or.inl rfl)).mono ?_; rintro e w' ⟨rfl, n, os, rfl⟩))
  go_end0
  exact ⟨rfl, n, os, rfl⟩

theorem sort_u_eq (zs : List Int) : Sort.sort ltInt zs.toArray = (zs.mergeSort fun x y => decide (x ≤ y)).toArray := by
  rw [← sortInt zs]

/-- slices.Sort at []NID: the cells hold the numbers ascending; new blocks behind the heap; nothing else turns. -/
theorem Srt.sorted (blk off cap : Nat) (zs : List Int) (w : World) (hH : Holds encU w blk off zs.toArray) (hblk : blk < w.heap.size) (hsz : zs.length < 4611686018427387904) :
    Calls Try.prog 29 #[.slice (some ⟨blk, off, none⟩) zs.length cap] w fun e w' =>
      e = .returned (.tuple #[]) ∧ ∃ n os, w' = grow (putRow encU (Sort.ahead w n) blk off (zs.mergeSort fun x y => decide (x ≤ y)).toArray) os := by
  have h := Srt.Sort_u pdqWalk_holds blk off cap zs.toArray w hH hblk (by simpa using hsz)
  rw [sort_u_eq] at h
  simpa using h

theorem Srt.insertionSort_u_nil (p : Option Addr) (cap : Nat) (w : World) :
    Calls Try.prog 52 #[.slice p 0 cap, .int .i64 0, .int .i64 0] w fun e w' => e = .returned (.tuple #[]) ∧ w' = w := by
  go_enter Try.func52, Try.ntmps52
  go_wp2
  refine wp_loop_rounds 1 ?_
  rw [rounds_succ]
  go_wp2
  go_end0
  exact ⟨rfl, rfl⟩

set_option maxRecDepth 100000 in
theorem Srt.pdqsort_u_nil (p : Option Addr) (cap : Nat) (w : World) :
    Calls Try.prog 39 #[.slice p 0 cap, .int .i64 0, .int .i64 0, .int .i64 0] w fun e w' => e = .returned (.tuple #[]) ∧ w' = w := by
  go_enter Try.func39, Try.ntmps39
  go_wp2
  refine wp_loop_rounds 1 ?_
  rw [rounds_succ]
  go_wp2_with (first | (go_at_call 52; refine (Srt.insertionSort_u_nil p cap _).mono ?_; rintro e w' ⟨rfl, rfl⟩))
  refine bodyPost_ret (results_none rfl _ _ _) rfl ?_      -- an explicit 'return' in a function without results
  exact ⟨rfl, rfl⟩

set_option maxRecDepth 100000 in
theorem Srt.Sort_u_nil (p : Option Addr) (cap : Nat) (w : World) :
    Calls Try.prog 29 #[.slice p 0 cap] w fun e w' => e = .returned (.tuple #[]) ∧ w' = w := by
  have hLen : ∀ w, Calls Try.prog 40 #[.int .u64 0] w fun e w' => e = .returned (.int .i64 0) ∧ w' = w := fun w => Srt.bits_Len_u 0 w (by omega) (by omega)
  go_enter Try.func29, Try.ntmps29
  go_wp2_with (first
    | (go_at_call 40; refine (hLen _).mono ?_; rintro e w' ⟨rfl, rfl⟩)
    | (go_at_call 39; refine (Srt.pdqsort_u_nil p cap _).mono ?_; rintro e w' ⟨rfl, rfl⟩))
  go_end0
  exact ⟨rfl, rfl⟩

end Go.Proofs.Qxb6609273a
