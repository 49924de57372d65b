/- slices.Sort at []heartmesh.NID (uint32) over this program: turned to it from the guide's worked walks at int: cmp.Less. -/
import Derived.Test.Qxb6609273aBase
import Derived.Sort.Walk0
import Derived.Sort.Row
import Derived.WalkKit
namespace Go.Proofs.Qxb6609273a
open Go.RowKit Go.Sort

set_option maxHeartbeats 1000000 in
theorem Srt.cmp_isNaN_u (x : Int) (w : World) : Calls Try.prog 74 #[.int .u32 x] w fun e w' => e = .returned (.bool false) ∧ w' = w := by
  go_enter Try.func74, Try.ntmps74
  go_wp2
  go_ret
  exact ⟨by simp, rfl⟩

set_option maxHeartbeats 1000000 in
theorem Srt.cmp_Less_u (x y : Int) (w : World) : Calls Try.prog 58 #[.int .u32 x, .int .u32 y] w fun e w' => e = .returned (.bool (Sort.ltInt x y)) ∧ w' = w := by
  go_enter Try.func58, Try.ntmps58
  go_wp2_with (go_at_call 74; refine (Srt.cmp_isNaN_u _ _).mono ?_; rintro e w' ⟨rfl, rfl⟩)
  go_ret
  exact ⟨rfl, rfl⟩

abbrev encU : Int → Value := fun x => Value.int .u32 x

end Go.Proofs.Qxb6609273a
