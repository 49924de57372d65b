/- The walks of the functions on the road of 'FnIsLinkDecidedBySymlinkBitAlone', and the plain law on bit 17 of a 32-bit word. -/
import Derived.Test.Qxb6612646aRows
import Derived.WalkKit
import Derived.Laws.BitsAllLaws
namespace Go.Proofs.Qxb6612646a
open Go.RowKit

/-- What 'File.IsLink' answers of a file with these flags. -/
def lkB (f : Int) : Bool := bits .and .u32 f 131072 != 0

theorem lkB_bit (f : Int) (h0 : 0 ≤ f) (h1 : f < 4294967296) : lkB f = f.toNat.testBit 17 := by
  unfold lkB
  rw [u32_and f 131072 h0 h1 (by decide) (by decide)]
  have e : (131072 : Int).toNat = 2 ^ 17 := by decide
  rw [e]
  generalize f.toNat = x
  cases hb : x.testBit 17
  · have z : x &&& 2 ^ 17 = 0 := by
      apply Nat.eq_of_testBit_eq
      intro i
      rw [Nat.testBit_and, Nat.testBit_two_pow, Nat.zero_testBit]
      by_cases h : 17 = i
      · subst h; simp [hb]
      · simp [h]
    rw [z]; rfl
  · have z : x &&& 2 ^ 17 ≠ 0 := by
      intro h
      have := congrArg (fun y => Nat.testBit y 17) h
      simp only [Nat.testBit_and, Nat.testBit_two_pow, hb, Nat.zero_testBit] at this
      simp at this
    rw [bne_iff_ne]
    omega

theorem or_lt (a b : Int) (h0 : 0 ≤ a) (h1 : a < 4294967296) (g0 : 0 ≤ b) (g1 : b < 4294967296) : a.toNat ||| b.toNat < 4294967296 :=
  Nat.or_lt_two_pow (n := 32) (by omega) (by omega)
theorem xor_lt (a b : Int) (h0 : 0 ≤ a) (h1 : a < 4294967296) (g0 : 0 ≤ b) (g1 : b < 4294967296) : a.toNat ^^^ b.toNat < 4294967296 :=
  Nat.xor_lt_two_pow (n := 32) (by omega) (by omega)
theorem and_lt (a b : Int) (_h0 : 0 ≤ a) (_h1 : a < 4294967296) (g0 : 0 ≤ b) (g1 : b < 4294967296) : a.toNat &&& b.toNat < 4294967296 :=
  Nat.and_lt_two_pow (n := 32) _ (by omega)

theorem lkB_or (a b : Int) (h0 : 0 ≤ a) (h1 : a < 4294967296) (g0 : 0 ≤ b) (g1 : b < 4294967296) : lkB (bits .or .u32 a b) = (lkB a || lkB b) := by
  have := or_lt a b h0 h1 g0 g1
  rw [u32_or a b h0 h1 g0 g1, lkB_bit _ (by omega) (by omega), lkB_bit a h0 h1, lkB_bit b g0 g1]
  simp [Nat.testBit_or]
theorem lkB_and (a b : Int) (h0 : 0 ≤ a) (h1 : a < 4294967296) (g0 : 0 ≤ b) (g1 : b < 4294967296) : lkB (bits .and .u32 a b) = (lkB a && lkB b) := by
  have := and_lt a b h0 h1 g0 g1
  rw [u32_and a b h0 h1 g0 g1, lkB_bit _ (by omega) (by omega), lkB_bit a h0 h1, lkB_bit b g0 g1]
  simp [Nat.testBit_and]
theorem lkB_xor (a b : Int) (h0 : 0 ≤ a) (h1 : a < 4294967296) (g0 : 0 ≤ b) (g1 : b < 4294967296) : (bits .and .u32 (bits .xor .u32 a b) 131072 == 0) = (lkB a == lkB b) := by
  have := xor_lt a b h0 h1 g0 g1
  have e : (bits .and .u32 (bits .xor .u32 a b) 131072 == 0) = !lkB (bits .xor .u32 a b) := by unfold lkB; simp [bne]
  rw [e, u32_xor a b h0 h1 g0 g1, lkB_bit _ (by omega) (by omega), lkB_bit a h0 h1, lkB_bit b g0 g1]
  simp only [Int.toNat_natCast, Nat.testBit_xor]
  cases a.toNat.testBit 17 <;> cases b.toNat.testBit 17 <;> rfl

set_option maxHeartbeats 400000 in
theorem bytes_any (a0 : ByteArray) (a1 : Int) (a2 : Int) (a3 : ByteArray) (a4 : Int) (a5 : Int) (w0 : a0.size ≤ maxLen) (w3 : a3.size ≤ maxLen) (w : World) :
    Calls Try.prog 6 #[.string a0, .int .u32 a1, .int .i64 a2, .string a3, .int .u32 a4, .int .i64 a5] w fun e w' => (∃ b, e = .returned (.bool b)) ∧ w' = w := by
  unfold maxLen at w0 w3
  go_enter Try.func6, Try.ntmps6
  go_wp2
  all_goals go_ret
  all_goals exact ⟨⟨_, rfl⟩, rfl⟩

set_option maxHeartbeats 400000 in
theorem isLink_any (n : ByteArray) (f m v l : Int) (bl : Value) (w : World) :
    Calls Try.prog 7 #[.agg #[.string n, .int .u32 f, .int .i64 m, .int .u64 v, .int .u64 l, bl]] w fun e w' => e = .returned (.bool (lkB f)) ∧ w' = w.alloc (.cells #[.string n, .int .u32 f, .int .i64 m, .int .u64 v, .int .u64 l, bl] 28) := by
  go_enter Try.func7, Try.ntmps7
  go_wp2
  go_ret
  exact ⟨rfl, rfl⟩
end Go.Proofs.Qxb6612646a
