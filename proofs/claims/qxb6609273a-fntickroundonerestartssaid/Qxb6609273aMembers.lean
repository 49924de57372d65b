/- Members: the closure, IndexFunc, DeleteFunc, Members. -/
import Derived.Test.Qxb6609273aNodeW
import Derived.MapKept
namespace Go.Proofs.Qxb6609273a
open Go.RowKit Go.Sort

theorem look58 (fb : Nat) (v : Int) (w : World) (h : w.heap[fb]? = some (.map #[] 0)) : (Instr.lookup 58 (.map (some fb)) (.int .u32 v) false).run Try.prog w = .ok (.bool false) w := by
  have c1 : ∀ e, (Instr.checkKey e 10000 34 (.int .u32 v)).run Try.prog w = .ok () w := fun e => MapKept.run_checkKey (d := .int .u32) Try.underlying34 (by simp [MapKept.IsKey]) e 9999
  have c2 : (Instr.findKey 34 (.int .u32 v) []).run Try.prog w = .ok none w := MapKept.run_findKey Try.underlying34 rfl
  simp [Instr.lookup, run_underlying Try.underlying58, MapKept.run_getObj_map h, c1, c2, Result.andThen]

set_option maxHeartbeats 400000 in
theorem closure31 (v : Int) (bx nb fb : Nat) (w : World) (h1 : w.cell? ⟨bx, 0, none⟩ = some (.pointer (some ⟨nb, 0, none⟩))) (h2 : w.cell? ⟨nb, 9, none⟩ = some (.map (some fb))) (h : w.heap[fb]? = some (.map #[] 0)) :
    Calls Try.prog 31 #[.int .u32 v, .pointer (some ⟨bx, 0, none⟩)] w fun e w' => e = .returned (.bool false) ∧ w' = w := by
  have hl := look58 fb v w h
  clear h
  go_enter Try.func31, Try.ntmps31
  go_wp2
  go_ret
  exact ⟨rfl, rfl⟩

set_option maxHeartbeats 1000000 in
theorem indexFunc41 (p : Option Addr) (c : Nat) (d : List Int) (B bx nb fb : Nat) (w : World) (hl : d.length ≤ 4096) (hr : Row B w p d)
    (h1 : w.cell? ⟨bx, 0, none⟩ = some (.pointer (some ⟨nb, 0, none⟩))) (h2 : w.cell? ⟨nb, 9, none⟩ = some (.map (some fb))) (h : w.heap[fb]? = some (.map #[] 0)) :
    Calls Try.prog 41 #[.slice p d.length c, .func (.func 31) #[] #[.pointer (some ⟨bx, 0, none⟩)]] w fun e w' => e = .returned (.int .i64 (-1)) ∧ w' = w := by
  have hc := fun v => closure31 v bx nb fb w h1 h2 h
  have HC : Hid (∀ v, Calls Try.prog 31 #[.int .u32 v, .pointer (some ⟨bx, 0, none⟩)] w fun e w' => e = .returned (.bool false) ∧ w' = w) := hc
  clear hc h1 h2 h
  generalize hn : d.length = n at *
  have HN : Hid (d.length = n) := hn
  clear hn
  go_enter Try.func41, Try.ntmps41
  go_wp2
  go_loop [8] (fun s8 => ∃ k : Nat, s8 = .int .i64 k ∧ k ≤ n) (fun s8 => n - (intOf s8).toNat)
  case atStart => exact ⟨0, rfl, Nat.zero_le _⟩
  case round =>
    obtain ⟨k, rfl, hk⟩ := hrel
    by_cases hlt : k < n
    · have hN := HN.out
      rcases hr with hr | ⟨b, off, rfl, _, _, hH⟩
      · subst hr; simp at hN; omega
      have hcell : w.cell? ⟨b, off + k, none⟩ = some (.int .u32 d.toArray[k]!) := (hH k (by simp; omega)).1
      generalize d.toArray[k]! = x at hcell
      clear hH hN
      go_wp2_with fail
      refine (HC.out _).mono ?_
      rintro e w' ⟨rfl, rfl⟩
      go_wp2_with fail
      go_round
      case rel => exact ⟨k + 1, by go_num, by omega⟩
      case measure => simp [intOf]; omega
    · clear hr
      go_wp2
      go_ret
      exact ⟨rfl, rfl⟩

set_option maxHeartbeats 1000000 in
theorem deleteFunc30 (p : Option Addr) (c : Nat) (d : List Int) (B bx nb fb : Nat) (w : World) (hl : d.length ≤ 4096) (hr : Row B w p d)
    (h1 : w.cell? ⟨bx, 0, none⟩ = some (.pointer (some ⟨nb, 0, none⟩))) (h2 : w.cell? ⟨nb, 9, none⟩ = some (.map (some fb))) (h : w.heap[fb]? = some (.map #[] 0)) :
    Calls Try.prog 30 #[.slice p d.length c, .func (.func 31) #[] #[.pointer (some ⟨bx, 0, none⟩)]] w fun e w' => e = .returned (.slice p d.length c) ∧ w' = w := by
  have hi := indexFunc41 p c d B bx nb fb w hl hr h1 h2 h
  clear hr h1 h2 h
  generalize d.length = n at *
  have HI : Hid (Calls Try.prog 41 #[.slice p n c, .func (.func 31) #[] #[.pointer (some ⟨bx, 0, none⟩)]] w fun e w' => e = .returned (.int .i64 (-1)) ∧ w' = w) := hi
  clear hi
  go_enter Try.func30, Try.ntmps30
  go_wp2_with fail
  refine HI.out.mono ?_
  rintro e w' ⟨rfl, rfl⟩
  go_wp2_with fail
  go_ret
  exact ⟨rfl, rfl⟩

set_option maxHeartbeats 1000000 in
/-- Members at a node that is not its cluster's head: nil. -/
theorem members_nil (nb : Nat) (id head : Int) (w : World) (hne : head ≠ id) (c0 : w.cell? ⟨nb, 0, none⟩ = some (.int .u32 id)) (c1 : w.cell? ⟨nb, 1, none⟩ = some (.int .u32 head)) :
    Calls Try.prog 15 #[.pointer (some ⟨nb, 0, none⟩)] w fun e w' => e = .returned (.slice none 0 0) ∧ RowKit.Below w.heap.size w w' := by
  have he : (head != id) = true := by simpa using hne
  have k0 : (w.alloc (.cells #[.pointer (some ⟨nb, 0, none⟩)] 32)).cell? ⟨nb, 0, none⟩ = some (.int .u32 id) := by
    rw [World.cell?_of_block (w := w) (Below.heap_alloc w _ _ (cell_lt c0))]; exact c0
  have k1 : (w.alloc (.cells #[.pointer (some ⟨nb, 0, none⟩)] 32)).cell? ⟨nb, 1, none⟩ = some (.int .u32 head) := by
    rw [World.cell?_of_block (w := w) (Below.heap_alloc w _ _ (cell_lt c1))]; exact c1
  clear c0 c1 hne
  go_enter Try.func15, Try.ntmps15
  go_wp2_with fail
  go_quiet (fail)
  go_wp2_with fail
  go_ret
  exact ⟨rfl, (Kp.trans (Kp.alloc noB w _) (Kp.drewN _ _ _)).toBelow (Nat.le_refl _) (fun _ _ x => x)⟩

set_option maxHeartbeats 2000000 in
/-- Members at a node that heads its cluster: a copy of the member list in memory of the call's own. -/
theorem members_head (nb : Nat) (id : Int) (d : List Int) (B : Nat) (ex hp : Int) (tp : Bool) (w : World) (hl : d.length ≤ 4096) (h : NodeOk B w nb id id d ex hp tp) :
    Calls Try.prog 15 #[.pointer (some ⟨nb, 0, none⟩)] w fun e w' => ∃ p cap, e = .returned (.slice p d.length cap) ∧ Row w.heap.size w' p d ∧ (∀ k, inRow p k → w.heap.size ≤ k ∧ k < w'.heap.size) ∧ RowKit.Below w.heap.size w w' := by
  obtain ⟨h0, p, cap, ev, fb, hb, ab, h1, h2, h3, h4, b1, b2, b3, hr, hn⟩ := h
  have hlt : nb < w.heap.size := heap_lt h1
  have he : (id != id) = false := by simp
  have g : ∀ i v, w.cell? ⟨nb, i, none⟩ = some v → (w.alloc (.cells #[.pointer (some ⟨nb, 0, none⟩)] 32)).cell? ⟨nb, i, none⟩ = some v := fun i v hv => by
    rw [World.cell?_of_block (w := w) (Below.heap_alloc w _ _ hlt)]; exact hv
  have k0 := g 0 (.int .u32 id) (cell_of_heap h1 rfl)
  have k1 := g 1 (.int .u32 id) (cell_of_heap h1 rfl)
  have k2 := g 2 (.slice p d.length cap) (cell_of_heap h1 rfl)
  have HK : Hid (w.cell? ⟨nb, 9, none⟩ = some (.map (some fb))) := cell_of_heap h1 rfl
  have HF : Hid (w.heap[fb]? = some (.map #[] 0)) := h2
  have HR : Hid (Row B w p d) := hr
  have HL : Hid (d.length ≤ 4096) := hl
  have HT : Hid (nb < w.heap.size) := hlt
  clear g h0 h1 h2 h3 h4 b1 b2 b3 hr hn hlt hl
  go_enter Try.func15, Try.ntmps15
  go_wp2_with fail
  go_quiet (fail)
  go_wp2_with fail
  clear k0 k1 k2
  have HW : Hid (Kp noB w ((w.alloc (.cells #[.pointer (some ⟨nb, 0, none⟩)] 32)).drewN nq)) := (Kp.alloc noB w _).trans (Kp.drewN _ _ _)
  have HX : Hid (((w.alloc (.cells #[.pointer (some ⟨nb, 0, none⟩)] 32)).drewN nq).cell? ⟨w.heap.size, 0, none⟩ = some (.pointer (some ⟨nb, 0, none⟩))) := by
    show (w.alloc (.cells #[.pointer (some ⟨nb, 0, none⟩)] 32)).cell? ⟨w.heap.size, 0, none⟩ = _
    rw [World.cell?_alloc_at _ _ _ _ rfl]; rfl
  have HZ : Hid (w.heap.size < ((w.alloc (.cells #[.pointer (some ⟨nb, 0, none⟩)] 32)).drewN nq).heap.size) := cell_lt HX.out
  generalize (w.alloc (.cells #[.pointer (some ⟨nb, 0, none⟩)] 32)).drewN nq = W at HW HX HZ ⊢
  refine (clone_any p cap d B W HL.out (HR.out.kept HW.out (fun _ _ x => x))).mono ?_
  rintro e w1 ⟨p1, cap1, rfl, hr1, hap1, hb1⟩
  have HD : Hid (Calls Try.prog 30 #[.slice p1 d.length cap1, .func (.func 31) #[] #[.pointer (some ⟨w.heap.size, 0, none⟩)]] w1 fun e w' => e = .returned (.slice p1 d.length cap1) ∧ w' = w1) :=
    deleteFunc30 p1 cap1 d W.heap.size w.heap.size nb fb w1 HL.out hr1 (by rw [hb1.cell (p := ⟨w.heap.size, 0, none⟩) HZ.out]; exact HX.out)
      (by rw [hb1.cell (p := ⟨nb, 9, none⟩) (Nat.lt_of_lt_of_le HT.out HW.out.size), HW.out.cell (p := ⟨nb, 9, none⟩) HT.out (fun x => x)]; exact HK.out)
      (heapAt_below hb1 (HW.out.heap HF.out (fun x => x)))
  have HE : Hid (Row W.heap.size w1 p1 d ∧ (∀ k, inRow p1 k → W.heap.size ≤ k ∧ k < w1.heap.size) ∧ RowKit.Below W.heap.size W w1) := ⟨hr1, hap1, hb1⟩
  clear hr1 hap1 hb1
  go_wp2_with fail
  refine HD.out.mono ?_
  rintro e w2 ⟨rfl, rfl⟩
  go_wp2_with fail
  go_ret
  have hs := HW.out.size
  exact ⟨p1, cap1, rfl, HE.out.1.mono hs, fun k hk => ⟨Nat.le_trans hs (HE.out.2.1 k hk).1, (HE.out.2.1 k hk).2⟩, (HW.out.toBelow (Nat.le_refl _) (fun _ _ x => x)).trans (HE.out.2.2.mono hs)⟩
end Go.Proofs.Qxb6609273a
