/- frameIs, tickAnswerIs, scriptSteps, scriptAllowed: the law's own helpers. -/
import Derived.Test.Qxb6609273aTick2
import Derived.Shelf.SlSortCmp.QuietGrown
namespace Go.Proofs.Qxb6609273a
open Go.RowKit Go.Sort

set_option maxHeartbeats 2000000 in
theorem frameIs_yes (kind : Int) (cl : Bool) (id e hop : Int) (w : World) :
    Calls Try.prog 37 #[.agg (frameC kind cl id e hop), .int .u8 kind, .bool cl, .int .u32 id, .int .i64 e, .int .i64 hop] w fun r w' => r = .returned (.bool true) ∧ w' = w.alloc (.cells (frameC kind cl id e hop) 62) := by
  have e1 : (kind == kind) = true := by simp
  have e2 : (id == id) = true := by simp
  have e3 : (e == e) = true := by simp
  have e4 : (hop == hop) = true := by simp
  have e5 : (cl == cl) = true := by simp
  go_enter Try.func37, Try.ntmps37
  go_wp2
  go_ret
  exact ⟨rfl, rfl⟩

set_option maxHeartbeats 2000000 in
theorem answer_yes (fv : Value) (part : Bool) (id e hop : Int) (w : World) (h : FrAns w fv part id e hop) :
    Calls Try.prog 23 #[fv, .slice none 0 0, .bool part, .int .u32 id, .int .i64 e, .int .i64 hop] w fun r w' => r = .returned (.bool true) ∧ ∃ os, w' = grow w os := by
  rcases h with ⟨hp, rfl⟩ | ⟨rfl, rfl, fk, rfl, hf⟩ | ⟨rfl, rfl, fk, rfl, hf⟩
  · cases part
    · go_enter Try.func23, Try.ntmps23
      go_wp2
      go_ret
      exact ⟨rfl, #[], by rw [grow_empty]⟩
    · obtain rfl : hop = 3 := by simpa using hp
      clear hp
      go_enter Try.func23, Try.ntmps23
      go_wp2
      go_ret
      exact ⟨rfl, #[], by rw [grow_empty]⟩
  · have c0 : w.cell? ⟨fk, 0, none⟩ = some (.int .u8 1) := cell_of_heap hf rfl
    have c1 : w.cell? ⟨fk, 1, none⟩ = some (.int .u32 id) := cell_of_heap hf rfl
    have c2 : w.cell? ⟨fk, 2, none⟩ = some (.int .i64 e) := cell_of_heap hf rfl
    have c3 : w.cell? ⟨fk, 3, none⟩ = some (.int .i64 1) := cell_of_heap hf rfl
    have c4 : w.cell? ⟨fk, 4, none⟩ = some (.bool true) := cell_of_heap hf rfl
    have c5 : w.cell? ⟨fk, 5, none⟩ = some (.slice none 0 0) := cell_of_heap hf rfl
    have c6 : w.cell? ⟨fk, 6, none⟩ = some (.slice none 0 0) := cell_of_heap hf rfl
    have c7 : w.cell? ⟨fk, 7, none⟩ = some (.slice none 0 0) := cell_of_heap hf rfl
    have c8 : w.cell? ⟨fk, 8, none⟩ = some (.bool false) := cell_of_heap hf rfl
    have c9 : w.cell? ⟨fk, 9, none⟩ = some (.int .u32 0) := cell_of_heap hf rfl
    have c10 : w.cell? ⟨fk, 10, none⟩ = some (.int .u32 0) := cell_of_heap hf rfl
    clear hf
    go_enter Try.func23, Try.ntmps23
    go_wp2_with fail
    refine (frameIs_yes 1 true id e 1 w).mono ?_
    rintro r w' ⟨rfl, rfl⟩
    go_wp2_with fail
    go_ret
    exact ⟨rfl, _, alloc_eq_grow _ _⟩
  · have c0 : w.cell? ⟨fk, 0, none⟩ = some (.int .u8 2) := cell_of_heap hf rfl
    have c1 : w.cell? ⟨fk, 1, none⟩ = some (.int .u32 id) := cell_of_heap hf rfl
    have c2 : w.cell? ⟨fk, 2, none⟩ = some (.int .i64 e) := cell_of_heap hf rfl
    have c3 : w.cell? ⟨fk, 3, none⟩ = some (.int .i64 2) := cell_of_heap hf rfl
    have c4 : w.cell? ⟨fk, 4, none⟩ = some (.bool false) := cell_of_heap hf rfl
    have c5 : w.cell? ⟨fk, 5, none⟩ = some (.slice none 0 0) := cell_of_heap hf rfl
    have c6 : w.cell? ⟨fk, 6, none⟩ = some (.slice none 0 0) := cell_of_heap hf rfl
    have c7 : w.cell? ⟨fk, 7, none⟩ = some (.slice none 0 0) := cell_of_heap hf rfl
    have c8 : w.cell? ⟨fk, 8, none⟩ = some (.bool false) := cell_of_heap hf rfl
    have c9 : w.cell? ⟨fk, 9, none⟩ = some (.int .u32 0) := cell_of_heap hf rfl
    have c10 : w.cell? ⟨fk, 10, none⟩ = some (.int .u32 0) := cell_of_heap hf rfl
    clear hf
    go_enter Try.func23, Try.ntmps23
    go_wp2_with fail
    refine (frameIs_yes 2 false id e 2 w).mono ?_
    rintro r w' ⟨rfl, rfl⟩
    go_wp2_with fail
    go_ret
    exact ⟨rfl, _, alloc_eq_grow _ _⟩

/-- How many steps the script has. -/
def stepsOf (m n : Nat) : Nat := if n < m then n else m
theorem stepsOf_le (m n : Nat) : stepsOf m n ≤ m ∧ stepsOf m n ≤ n := by unfold stepsOf; split <;> omega

set_option maxHeartbeats 400000 in
theorem scriptSteps_any (a3 : Option Addr) (l3 c3 : Nat) (a4 : Option Addr) (l4 c4 : Nat) (w : World) (_h3 : l3 ≤ 4096) (_h4 : l4 ≤ 4096) :
    Calls Try.prog 20 #[.slice a3 l3 c3, .slice a4 l4 c4] w fun r w' => r = .returned (.int .i64 (stepsOf l3 l4)) ∧ w' = w := by
  unfold stepsOf
  by_cases h : l4 < l3
  · rw [if_pos h]
    have hz : (l4 : Int) < (l3 : Int) := by omega
    go_enter Try.func20, Try.ntmps20
    go_wp2
    go_ret
    exact ⟨rfl, rfl⟩
  · rw [if_neg h]
    have hz : ¬ (l4 : Int) < (l3 : Int) := by omega
    go_enter Try.func20, Try.ntmps20
    go_wp2
    go_ret
    exact ⟨rfl, rfl⟩

/-- Every hop of the script is a round, round 3 only at a node that is not the head. -/
def Allowed (id head : Int) (z : Nat → Int) (n : Nat) : Prop := ∀ k, k < n → 1 ≤ z k ∧ z k ≤ 3 ∧ (z k = 3 → id ≠ head)

set_option maxHeartbeats 2000000 in
theorem scriptAllowed_any (id head : Int) (a : Option Addr) (len c n : Nat) (z : Nat → Int) (w : World) (hl : len ≤ 4096) (hn : n ≤ len) (h : IsSeq .i64 w a len z) :
    Calls Try.prog 21 #[.int .u32 id, .int .u32 head, .slice a len c, .int .i64 n] w fun r w' => (r = .returned (.bool false) ∨ (r = .returned (.bool true) ∧ Allowed id head z n)) ∧ w' = w := by
  have HS : Hid (IsSeq .i64 w a len z) := h
  clear h
  go_enter Try.func21, Try.ntmps21
  go_wp2
  go_loop [9] (fun s9 => ∃ k : Nat, s9 = .int .i64 k ∧ k ≤ n ∧ Allowed id head z k) (fun s9 => n - (intOf s9).toNat)
  case atStart => exact ⟨0, rfl, Nat.zero_le _, fun k hk => absurd hk (Nat.not_lt_zero _)⟩
  case round =>
    obtain ⟨k, rfl, hk, hA⟩ := hrel
    have HA : Hid (Allowed id head z k) := hA
    clear hA
    by_cases hlt : k < n
    · rcases HS.out.2.2 with h0 | ⟨b, off, hx, hb, hc⟩
      · omega
      subst hx
      have hcell : w.cell? ⟨b, off + k, none⟩ = some (.int .i64 (z k)) := (hc k (by omega)).1
      have hkz : (k : Int) < (len : Int) := by omega
      clear hc
      have step : 1 ≤ z k → z k ≤ 3 → (z k = 3 → id ≠ head) → Allowed id head z (k + 1) := fun h1 h2 h3 j hj => by
        by_cases e : j = k
        · subst e; exact ⟨h1, h2, h3⟩
        · exact HA.out j (by omega)
      have STEP : Hid (1 ≤ z k → z k ≤ 3 → (z k = 3 → id ≠ head) → Allowed id head z (k + 1)) := step
      clear step
      generalize z k = x at hcell STEP
      by_cases hid : id = head
      · have he : (id == head) = true := beq_iff_eq.2 hid
        have HID : Hid (id = head) := hid
        clear hid
        go_wp2
        all_goals first
          | (go_ret; exact ⟨.inl rfl, rfl⟩)
          | (go_round
             case rel => exact ⟨k + 1, by go_num, by omega, STEP.out (by omega) (by omega) (fun h => by first | omega | (simp_all; done))⟩
             case measure => simp [intOf]; omega)
      · have he : (id == head) = false := beq_eq_false_iff_ne.2 hid
        have HID : Hid (id ≠ head) := hid
        clear hid
        go_wp2
        all_goals first
          | (go_ret; exact ⟨.inl rfl, rfl⟩)
          | (go_round
             case rel => exact ⟨k + 1, by go_num, by omega, STEP.out (by omega) (by omega) (fun _ => HID.out)⟩
             case measure => simp [intOf]; omega)
    · obtain rfl : k = n := by omega
      go_wp2
      go_ret
      exact ⟨.inr ⟨rfl, HA.out⟩, rfl⟩
end Go.Proofs.Qxb6609273a
