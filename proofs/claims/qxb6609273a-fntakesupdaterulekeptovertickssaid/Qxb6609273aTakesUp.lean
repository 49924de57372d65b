/- takesUpdateFrom at a node without deputies; onlyHeadTaken. -/
import Derived.Test.Qxb6609273aAnswer
namespace Go.Proofs.Qxb6609273a
open Go.RowKit Go.Sort

set_option maxHeartbeats 400000 in
theorem index77 (v : Int) (w : World) : Calls Try.prog 77 #[.slice none 0 0, .int .u32 v] w fun e w' => e = .returned (.int .i64 (-1)) ∧ w' = w := by
  go_enter Try.func77, Try.ntmps77
  go_wp2
  refine wp_loop_rounds 1 ?_
  rw [rounds_succ]
  go_wp2
  go_ret
  exact ⟨rfl, rfl⟩

set_option maxHeartbeats 400000 in
theorem contains68 (v : Int) (w : World) : Calls Try.prog 68 #[.slice none 0 0, .int .u32 v] w fun e w' => e = .returned (.bool false) ∧ w' = w := by
  go_enter Try.func68, Try.ntmps68
  go_wp2_with fail
  refine (index77 v w).mono ?_
  rintro e w' ⟨rfl, rfl⟩
  go_wp2_with fail
  go_ret
  exact ⟨rfl, rfl⟩

set_option maxHeartbeats 400000 in
theorem takes51 (nb : Nat) (head v : Int) (w : World) (c1 : w.cell? ⟨nb, 1, none⟩ = some (.int .u32 head)) (c3 : w.cell? ⟨nb, 3, none⟩ = some (.slice none 0 0)) :
    Calls Try.prog 51 #[.pointer (some ⟨nb, 0, none⟩), .int .u32 v] w fun e w' => e = .returned (.bool (v == head)) ∧ w' = w := by
  cases hv : (v == head)
  · go_enter Try.func51, Try.ntmps51
    go_wp2_with fail
    refine (contains68 v w).mono ?_
    rintro e w' ⟨rfl, rfl⟩
    go_wp2_with fail
    go_ret
    exact ⟨rfl, rfl⟩
  · go_enter Try.func51, Try.ntmps51
    go_wp2_with fail
    go_ret
    exact ⟨rfl, rfl⟩

set_option maxHeartbeats 400000 in
theorem takes38 (nb : Nat) (head v : Int) (w : World) (c1 : w.cell? ⟨nb, 1, none⟩ = some (.int .u32 head)) (c3 : w.cell? ⟨nb, 3, none⟩ = some (.slice none 0 0)) :
    Calls Try.prog 38 #[.pointer (some ⟨nb, 0, none⟩), .int .u32 v] w fun e w' => e = .returned (.bool (v == head)) ∧ w' = w := by
  have H := takes51 nb head v w c1 c3
  have HH : Hid (Calls Try.prog 51 #[.pointer (some ⟨nb, 0, none⟩), .int .u32 v] w fun e w' => e = .returned (.bool (v == head)) ∧ w' = w) := H
  clear H c1 c3
  generalize (v == head) = b at HH ⊢
  go_enter Try.func38, Try.ntmps38
  go_wp2_with fail
  refine HH.out.mono ?_
  rintro e w' ⟨rfl, rfl⟩
  go_wp2_with fail
  go_ret
  exact ⟨rfl, rfl⟩

set_option maxHeartbeats 4000000 in
theorem onlyHead25 (nb : Nat) (id head v : Int) (a : Option Addr) (len c : Nat) (z : Nat → Int) (w : World) (hl : len ≤ 4096) (h : IsSeq .u32 w a len z)
    (c1 : w.cell? ⟨nb, 1, none⟩ = some (.int .u32 head)) (c3 : w.cell? ⟨nb, 3, none⟩ = some (.slice none 0 0)) :
    Calls Try.prog 25 #[.pointer (some ⟨nb, 0, none⟩), .int .u32 id, .int .u32 head, .slice a len c, .int .u32 v] w fun e w' => e = .returned (.bool true) ∧ ∃ n, w' = w.drewN n := by
  have HT : Hid (∀ x W, W.cell? ⟨nb, 1, none⟩ = some (.int .u32 head) → W.cell? ⟨nb, 3, none⟩ = some (.slice none 0 0) → Calls Try.prog 38 #[.pointer (some ⟨nb, 0, none⟩), .int .u32 x] W fun e w' => e = .returned (.bool (x == head)) ∧ w' = W) :=
    fun x W k1 k3 => takes38 nb head x W k1 k3
  have HS : Hid (IsSeq .u32 w a len z) := h
  have e1 : (head == head) = true := by simp
  have H1 : Hid (w.cell? ⟨nb, 1, none⟩ = some (.int .u32 head)) := c1
  have H3 : Hid (w.cell? ⟨nb, 3, none⟩ = some (.slice none 0 0)) := c3
  clear h c1 c3
  generalize hv : (v == head) = bv
  generalize hi : (id == head) = bi
  have ev : (bv != bv) = false := by simp
  have ei : (bi != bi) = false := by simp
  go_enter Try.func25, Try.ntmps25
  go_wp2_with fail
  refine (HT.out _ _ H1.out H3.out).mono ?_
  rintro e w' ⟨rfl, rfl⟩
  go_wp2_with fail
  refine (HT.out _ _ H1.out H3.out).mono ?_
  rintro e w' ⟨rfl, hw⟩
  obtain rfl := hw
  go_wp2_with fail
  refine (HT.out _ _ H1.out H3.out).mono ?_
  rintro e w' ⟨rfl, hw⟩
  obtain rfl := hw
  go_wp2_with fail
  go_loopw [11] (fun s11 wr => ∃ (k m : Nat), s11 = .int .i64 k ∧ k ≤ len ∧ wr = w'.drewN m) (fun s11 _ => len - (intOf s11).toNat)
  case atStart => exact ⟨0, 0, rfl, Nat.zero_le _, rfl⟩
  case round =>
    obtain ⟨k, m, rfl, hk, hwr⟩ := hrel
    by_cases hlt : k < len
    · rcases HS.out.2.2 with h0 | ⟨b, off, hx, hb, hc⟩
      · omega
      subst hx
      have hcell : wr.cell? ⟨b, off + k, none⟩ = some (.int .u32 (z k)) := by rw [hwr]; exact (hc k hlt).1
      have K1 : Hid (∀ n, (wr.drewN n).cell? ⟨nb, 1, none⟩ = some (.int .u32 head)) := fun n => by rw [hwr]; exact H1.out
      have K3 : Hid (∀ n, (wr.drewN n).cell? ⟨nb, 3, none⟩ = some (.slice none 0 0)) := fun n => by rw [hwr]; exact H3.out
      have HW : Hid (wr = w'.drewN m) := hwr
      clear hc hwr
      generalize z k = x at hcell
      have hkz : (k : Int) < (len : Int) := by omega
      generalize hbx : (x == head) = bx
      have ebx : (bx != bx) = false := by simp
      go_wp2_with fail
      go_quiet (first | (go_at_call 38; refine Calls.quiet_of_same (HT.out _ _ (K1.out _) (K3.out _))))
      go_wp2_with fail
      go_roundw
      case rel => exact ⟨k + 1, _, by go_num, by omega, by rw [HW.out, World.drewN_drewN]⟩
      case measure => simp [intOf]; omega
    · go_wp2_with fail
      go_ret
      exact ⟨rfl, m, rfl⟩
end Go.Proofs.Qxb6609273a
