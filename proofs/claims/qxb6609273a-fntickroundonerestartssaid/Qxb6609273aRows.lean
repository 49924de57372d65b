/-
  No cell of these rows narrows 'for every input' (looked for: loops, veiled, ifaces, maps, wideKeys, modest, calm, conditions, laid).
  DERIVED. THE GIVEN ROWS OF THIS SEAT. 6 by the template 'for every input the law returns true; each argument reads behind the call as it read before'; 0 by the template 'total and deterministic' (their statements: Qxb6609273aTotals.lean).
  GIVEN WITH THE SEED: the statements are not yours to turn. If you find one false, say at which input.
  Laid BY PROGRAM, IN A SANDBOX (cutbox-rows.mjs): the forced cells as the released guide's own fill.sh prints them over the translation 29b45260cdfaf868… (all of the seat's roots in one cut). By AI agents, Wed Nov 11 2026. No macro, syntax, notation, axiom, sorry.
-/
import Derived.Test.Qxb6609273aChecked
import GoSem.Claim
import GoSem.ClaimJoined
import GoSem.ClaimMapViews
import Derived.JoinedTies
import Derived.KernelRfl
namespace Go.Proofs.Qxb6609273a
/- THE CELL 'sum', in the pinned program and in every row, IS THE sha256 OF THE DUMP (.gsa) THAT Qxb6609273aProg.lean LOADS. Nothing in Lean hashes anything: it is a label: what it is worth is what the hold of that sum in a sandbox is worth. -/
noncomputable def Try.pinned : Pinned := { name := "qxb6609273a", sum := "29b45260cdfaf8686b2cdcaca364a2dd015c7d2d391d9a7b52c13de6bc106a31", checked := Try.checked }
namespace Rows
def none {H : Type} : Left H := { results := [], args := [] }

/-- 'zzlaws_root_b1.FnNewerFoldPicksFirstLatest': WHATEVER THE INPUT: true; the input reads as it did. -/
def fnNewerFoldPicksFirstLatestSpec : ChangeSpec := { name := "fnNewerFoldPicksFirstLatest", fn := fun _ => fun
  | [d1, d2] => { results := [.lit (.bool true)], args := [d1, d2] }
  | _ => none }
def fnNewerFoldPicksFirstLatestRow : OpenClaim := { program := "qxb6609273a", sum := "29b45260cdfaf8686b2cdcaca364a2dd015c7d2d391d9a7b52c13de6bc106a31", func := "example.com/heartmesh/heartmesh/zzlaws_root_b1.FnNewerFoldPicksFirstLatest", spec := "fnNewerFoldPicksFirstLatest", apart := false }
def FnNewerFoldPicksFirstLatestSaid : Prop := fnNewerFoldPicksFirstLatestRow.holds Try.pinned (OpenSpec.ofChange fnNewerFoldPicksFirstLatestSpec)

/-- ITS FALSE NEIGHBOUR: 'it returns false'. Refute it at one input. -/
def fnNewerFoldPicksFirstLatestWrong : ChangeSpec := { name := "fnNewerFoldPicksFirstLatest", fn := fun _ => fun
  | [d1, d2] => { results := [.lit (.bool false)], args := [d1, d2] }
  | _ => none }
def FnNewerFoldPicksFirstLatestWrongFalsely : Prop := fnNewerFoldPicksFirstLatestRow.holds Try.pinned (OpenSpec.ofChange fnNewerFoldPicksFirstLatestWrong)

/-- 'zzlaws_root_b1.FnNewNodeMembersSortedAtHeadOnly': WHATEVER THE INPUT: true; the input reads as it did. -/
def fnNewNodeMembersSortedAtHeadOnlySpec : ChangeSpec := { name := "fnNewNodeMembersSortedAtHeadOnly", fn := fun _ => fun
  | [d1, d2, d3] => { results := [.lit (.bool true)], args := [d1, d2, d3] }
  | _ => none }
def fnNewNodeMembersSortedAtHeadOnlyRow : OpenClaim := { program := "qxb6609273a", sum := "29b45260cdfaf8686b2cdcaca364a2dd015c7d2d391d9a7b52c13de6bc106a31", func := "example.com/heartmesh/heartmesh/zzlaws_root_b1.FnNewNodeMembersSortedAtHeadOnly", spec := "fnNewNodeMembersSortedAtHeadOnly", unfollowed := true, recurses := true, apart := false }
def FnNewNodeMembersSortedAtHeadOnlySaid : Prop := fnNewNodeMembersSortedAtHeadOnlyRow.holds Try.pinned (OpenSpec.ofChange fnNewNodeMembersSortedAtHeadOnlySpec)

/-- ITS FALSE NEIGHBOUR: 'it returns false'. Refute it at one input. -/
def fnNewNodeMembersSortedAtHeadOnlyWrong : ChangeSpec := { name := "fnNewNodeMembersSortedAtHeadOnly", fn := fun _ => fun
  | [d1, d2, d3] => { results := [.lit (.bool false)], args := [d1, d2, d3] }
  | _ => none }
def FnNewNodeMembersSortedAtHeadOnlyWrongFalsely : Prop := fnNewNodeMembersSortedAtHeadOnlyRow.holds Try.pinned (OpenSpec.ofChange fnNewNodeMembersSortedAtHeadOnlyWrong)

/-- 'zzlaws_root_b1.FnNewNodeAndMembersShareNoMemory': WHATEVER THE INPUT: true; the input reads as it did. -/
def fnNewNodeAndMembersShareNoMemorySpec : ChangeSpec := { name := "fnNewNodeAndMembersShareNoMemory", fn := fun _ => fun
  | [d1, d2] => { results := [.lit (.bool true)], args := [d1, d2] }
  | _ => none }
def fnNewNodeAndMembersShareNoMemoryRow : OpenClaim := { program := "qxb6609273a", sum := "29b45260cdfaf8686b2cdcaca364a2dd015c7d2d391d9a7b52c13de6bc106a31", func := "example.com/heartmesh/heartmesh/zzlaws_root_b1.FnNewNodeAndMembersShareNoMemory", spec := "fnNewNodeAndMembersShareNoMemory", unfollowed := true, recurses := true, apart := false }
def FnNewNodeAndMembersShareNoMemorySaid : Prop := fnNewNodeAndMembersShareNoMemoryRow.holds Try.pinned (OpenSpec.ofChange fnNewNodeAndMembersShareNoMemorySpec)

/-- ITS FALSE NEIGHBOUR: 'it returns false'. Refute it at one input. -/
def fnNewNodeAndMembersShareNoMemoryWrong : ChangeSpec := { name := "fnNewNodeAndMembersShareNoMemory", fn := fun _ => fun
  | [d1, d2] => { results := [.lit (.bool false)], args := [d1, d2] }
  | _ => none }
def FnNewNodeAndMembersShareNoMemoryWrongFalsely : Prop := fnNewNodeAndMembersShareNoMemoryRow.holds Try.pinned (OpenSpec.ofChange fnNewNodeAndMembersShareNoMemoryWrong)

/-- 'zzlaws_root_b1.FnTickScriptExact': WHATEVER THE INPUT: true; the input reads as it did. -/
def fnTickScriptExactSpec : ChangeSpec := { name := "fnTickScriptExact", fn := fun _ => fun
  | [d1, d2, d3, d4, d5] => { results := [.lit (.bool true)], args := [d1, d2, d3, d4, d5] }
  | _ => none }
def fnTickScriptExactRow : OpenClaim := { program := "qxb6609273a", sum := "29b45260cdfaf8686b2cdcaca364a2dd015c7d2d391d9a7b52c13de6bc106a31", func := "example.com/heartmesh/heartmesh/zzlaws_root_b1.FnTickScriptExact", spec := "fnTickScriptExact", inPlace := ["maps.clone"], unfollowed := true, recurses := true, apart := false }
def FnTickScriptExactSaid : Prop := fnTickScriptExactRow.holds Try.pinned (OpenSpec.ofChange fnTickScriptExactSpec)

/-- ITS FALSE NEIGHBOUR: 'it returns false'. Refute it at one input. -/
def fnTickScriptExactWrong : ChangeSpec := { name := "fnTickScriptExact", fn := fun _ => fun
  | [d1, d2, d3, d4, d5] => { results := [.lit (.bool false)], args := [d1, d2, d3, d4, d5] }
  | _ => none }
def FnTickScriptExactWrongFalsely : Prop := fnTickScriptExactRow.holds Try.pinned (OpenSpec.ofChange fnTickScriptExactWrong)

/-- 'zzlaws_root_b1.FnTakesUpdateRuleKeptOverTicks': WHATEVER THE INPUT: true; the input reads as it did. -/
def fnTakesUpdateRuleKeptOverTicksSpec : ChangeSpec := { name := "fnTakesUpdateRuleKeptOverTicks", fn := fun _ => fun
  | [d1, d2, d3, d4, d5, d6] => { results := [.lit (.bool true)], args := [d1, d2, d3, d4, d5, d6] }
  | _ => none }
def fnTakesUpdateRuleKeptOverTicksRow : OpenClaim := { program := "qxb6609273a", sum := "29b45260cdfaf8686b2cdcaca364a2dd015c7d2d391d9a7b52c13de6bc106a31", func := "example.com/heartmesh/heartmesh/zzlaws_root_b1.FnTakesUpdateRuleKeptOverTicks", spec := "fnTakesUpdateRuleKeptOverTicks", inPlace := ["maps.clone"], unfollowed := true, recurses := true, apart := false }
def FnTakesUpdateRuleKeptOverTicksSaid : Prop := fnTakesUpdateRuleKeptOverTicksRow.holds Try.pinned (OpenSpec.ofChange fnTakesUpdateRuleKeptOverTicksSpec)

/-- ITS FALSE NEIGHBOUR: 'it returns false'. Refute it at one input. -/
def fnTakesUpdateRuleKeptOverTicksWrong : ChangeSpec := { name := "fnTakesUpdateRuleKeptOverTicks", fn := fun _ => fun
  | [d1, d2, d3, d4, d5, d6] => { results := [.lit (.bool false)], args := [d1, d2, d3, d4, d5, d6] }
  | _ => none }
def FnTakesUpdateRuleKeptOverTicksWrongFalsely : Prop := fnTakesUpdateRuleKeptOverTicksRow.holds Try.pinned (OpenSpec.ofChange fnTakesUpdateRuleKeptOverTicksWrong)

/-- 'zzlaws_root_b1.FnTickRoundOneRestarts': WHATEVER THE INPUT: true; the input reads as it did. -/
def fnTickRoundOneRestartsSpec : ChangeSpec := { name := "fnTickRoundOneRestarts", fn := fun _ => fun
  | [d1, d2, d3, d4, d5, d6, d7] => { results := [.lit (.bool true)], args := [d1, d2, d3, d4, d5, d6, d7] }
  | _ => none }
def fnTickRoundOneRestartsRow : OpenClaim := { program := "qxb6609273a", sum := "29b45260cdfaf8686b2cdcaca364a2dd015c7d2d391d9a7b52c13de6bc106a31", func := "example.com/heartmesh/heartmesh/zzlaws_root_b1.FnTickRoundOneRestarts", spec := "fnTickRoundOneRestarts", inPlace := ["maps.clone"], unfollowed := true, recurses := true, apart := false }
def FnTickRoundOneRestartsSaid : Prop := fnTickRoundOneRestartsRow.holds Try.pinned (OpenSpec.ofChange fnTickRoundOneRestartsSpec)

/-- ITS FALSE NEIGHBOUR: 'it returns false'. Refute it at one input. -/
def fnTickRoundOneRestartsWrong : ChangeSpec := { name := "fnTickRoundOneRestarts", fn := fun _ => fun
  | [d1, d2, d3, d4, d5, d6, d7] => { results := [.lit (.bool false)], args := [d1, d2, d3, d4, d5, d6, d7] }
  | _ => none }
def FnTickRoundOneRestartsWrongFalsely : Prop := fnTickRoundOneRestartsRow.holds Try.pinned (OpenSpec.ofChange fnTickRoundOneRestartsWrong)

end Rows
end Go.Proofs.Qxb6609273a
