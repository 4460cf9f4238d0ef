/-
  No cell of these rows narrows 'for every input' (looked for: loops, veiled, ifaces, maps, wideKeys, modest, calm, conditions, laid).
  DERIVED. THE GIVEN ROWS OF THIS SEAT. 5 by the template 'for every input the law returns true; each argument reads behind the call as it read before'; 0 by the template 'total and deterministic' (their statements: Qxb6600948aTotals.lean).
  GIVEN WITH THE SEED: the statements are not yours to turn. If you find one false, say at which input.
  Laid BY PROGRAM, IN A SANDBOX (cutbox-rows.mjs): the forced cells as the released guide's own fill.sh prints them over the translation 2aa4472389e787f9… (all of the seat's roots in one cut). By AI agents, Wed Nov 11 2026. No macro, syntax, notation, axiom, sorry.
-/
import Derived.Test.Qxb6600948aChecked
import GoSem.Claim
import GoSem.ClaimJoined
import GoSem.ClaimMapViews
import Derived.JoinedTies
import Derived.KernelRfl
namespace Go.Proofs.Qxb6600948a
/- THE CELL 'sum', in the pinned program and in every row, IS THE sha256 OF THE DUMP (.gsa) THAT Qxb6600948aProg.lean LOADS. Nothing in Lean hashes anything: it is a label: what it is worth is what the hold of that sum in a sandbox is worth. -/
noncomputable def Try.pinned : Pinned := { name := "qxb6600948a", sum := "2aa4472389e787f98bac7c060c36e909c5986587b1a9643a3873730408fb87d6", checked := Try.checked }
namespace Rows
def none {H : Type} : Left H := { results := [], args := [] }

/-- 'zzlaws_stack_b1.FnTreeIsTheRootsAndAllBelowThem': WHATEVER THE INPUT: true; the input reads as it did. -/
def fnTreeIsTheRootsAndAllBelowThemSpec : ChangeSpec := { name := "fnTreeIsTheRootsAndAllBelowThem", fn := fun _ => fun
  | [d1, d2, d3] => { results := [.lit (.bool true)], args := [d1, d2, d3] }
  | _ => none }
def fnTreeIsTheRootsAndAllBelowThemRow : OpenClaim := { program := "qxb6600948a", sum := "2aa4472389e787f98bac7c060c36e909c5986587b1a9643a3873730408fb87d6", func := "example.com/twelvetide/twelvetide/zzlaws_stack_b1.FnTreeIsTheRootsAndAllBelowThem", spec := "fnTreeIsTheRootsAndAllBelowThem", apart := false }
def FnTreeIsTheRootsAndAllBelowThemSaid : Prop := fnTreeIsTheRootsAndAllBelowThemRow.holds Try.pinned (OpenSpec.ofChange fnTreeIsTheRootsAndAllBelowThemSpec)

/-- ITS FALSE NEIGHBOUR: 'it returns false'. Refute it at one input. -/
def fnTreeIsTheRootsAndAllBelowThemWrong : ChangeSpec := { name := "fnTreeIsTheRootsAndAllBelowThem", fn := fun _ => fun
  | [d1, d2, d3] => { results := [.lit (.bool false)], args := [d1, d2, d3] }
  | _ => none }
def FnTreeIsTheRootsAndAllBelowThemWrongFalsely : Prop := fnTreeIsTheRootsAndAllBelowThemRow.holds Try.pinned (OpenSpec.ofChange fnTreeIsTheRootsAndAllBelowThemWrong)

/-- 'zzlaws_stack_b1.FnTreeOfItsOwnAnswerIsItsAnswer': WHATEVER THE INPUT: true; the input reads as it did. -/
def fnTreeOfItsOwnAnswerIsItsAnswerSpec : ChangeSpec := { name := "fnTreeOfItsOwnAnswerIsItsAnswer", fn := fun _ => fun
  | [d1, d2, d3] => { results := [.lit (.bool true)], args := [d1, d2, d3] }
  | _ => none }
def fnTreeOfItsOwnAnswerIsItsAnswerRow : OpenClaim := { program := "qxb6600948a", sum := "2aa4472389e787f98bac7c060c36e909c5986587b1a9643a3873730408fb87d6", func := "example.com/twelvetide/twelvetide/zzlaws_stack_b1.FnTreeOfItsOwnAnswerIsItsAnswer", spec := "fnTreeOfItsOwnAnswerIsItsAnswer", apart := false }
def FnTreeOfItsOwnAnswerIsItsAnswerSaid : Prop := fnTreeOfItsOwnAnswerIsItsAnswerRow.holds Try.pinned (OpenSpec.ofChange fnTreeOfItsOwnAnswerIsItsAnswerSpec)

/-- ITS FALSE NEIGHBOUR: 'it returns false'. Refute it at one input. -/
def fnTreeOfItsOwnAnswerIsItsAnswerWrong : ChangeSpec := { name := "fnTreeOfItsOwnAnswerIsItsAnswer", fn := fun _ => fun
  | [d1, d2, d3] => { results := [.lit (.bool false)], args := [d1, d2, d3] }
  | _ => none }
def FnTreeOfItsOwnAnswerIsItsAnswerWrongFalsely : Prop := fnTreeOfItsOwnAnswerIsItsAnswerRow.holds Try.pinned (OpenSpec.ofChange fnTreeOfItsOwnAnswerIsItsAnswerWrong)

/-- 'zzlaws_stack_b1.FnTreeOfJoinedRootsIsTheUnion': WHATEVER THE INPUT: true; the input reads as it did. -/
def fnTreeOfJoinedRootsIsTheUnionSpec : ChangeSpec := { name := "fnTreeOfJoinedRootsIsTheUnion", fn := fun _ => fun
  | [d1, d2, d3, d4] => { results := [.lit (.bool true)], args := [d1, d2, d3, d4] }
  | _ => none }
def fnTreeOfJoinedRootsIsTheUnionRow : OpenClaim := { program := "qxb6600948a", sum := "2aa4472389e787f98bac7c060c36e909c5986587b1a9643a3873730408fb87d6", func := "example.com/twelvetide/twelvetide/zzlaws_stack_b1.FnTreeOfJoinedRootsIsTheUnion", spec := "fnTreeOfJoinedRootsIsTheUnion", apart := false }
def FnTreeOfJoinedRootsIsTheUnionSaid : Prop := fnTreeOfJoinedRootsIsTheUnionRow.holds Try.pinned (OpenSpec.ofChange fnTreeOfJoinedRootsIsTheUnionSpec)

/-- ITS FALSE NEIGHBOUR: 'it returns false'. Refute it at one input. -/
def fnTreeOfJoinedRootsIsTheUnionWrong : ChangeSpec := { name := "fnTreeOfJoinedRootsIsTheUnion", fn := fun _ => fun
  | [d1, d2, d3, d4] => { results := [.lit (.bool false)], args := [d1, d2, d3, d4] }
  | _ => none }
def FnTreeOfJoinedRootsIsTheUnionWrongFalsely : Prop := fnTreeOfJoinedRootsIsTheUnionRow.holds Try.pinned (OpenSpec.ofChange fnTreeOfJoinedRootsIsTheUnionWrong)

/-- 'zzlaws_stack_b1.FnLivingGroupsAreTheGroupsWithALivingMember': WHATEVER THE INPUT: true; the input reads as it did. -/
def fnLivingGroupsAreTheGroupsWithALivingMemberSpec : ChangeSpec := { name := "fnLivingGroupsAreTheGroupsWithALivingMember", fn := fun _ => fun
  | [d1, d2, d3] => { results := [.lit (.bool true)], args := [d1, d2, d3] }
  | _ => none }
def fnLivingGroupsAreTheGroupsWithALivingMemberRow : OpenClaim := { program := "qxb6600948a", sum := "2aa4472389e787f98bac7c060c36e909c5986587b1a9643a3873730408fb87d6", func := "example.com/twelvetide/twelvetide/zzlaws_stack_b1.FnLivingGroupsAreTheGroupsWithALivingMember", spec := "fnLivingGroupsAreTheGroupsWithALivingMember", apart := false }
def FnLivingGroupsAreTheGroupsWithALivingMemberSaid : Prop := fnLivingGroupsAreTheGroupsWithALivingMemberRow.holds Try.pinned (OpenSpec.ofChange fnLivingGroupsAreTheGroupsWithALivingMemberSpec)

/-- ITS FALSE NEIGHBOUR: 'it returns false'. Refute it at one input. -/
def fnLivingGroupsAreTheGroupsWithALivingMemberWrong : ChangeSpec := { name := "fnLivingGroupsAreTheGroupsWithALivingMember", fn := fun _ => fun
  | [d1, d2, d3] => { results := [.lit (.bool false)], args := [d1, d2, d3] }
  | _ => none }
def FnLivingGroupsAreTheGroupsWithALivingMemberWrongFalsely : Prop := fnLivingGroupsAreTheGroupsWithALivingMemberRow.holds Try.pinned (OpenSpec.ofChange fnLivingGroupsAreTheGroupsWithALivingMemberWrong)

/-- 'zzlaws_stack_b1.FnLivingGroupsAZombieChangesOnlyItsOwnGroup': WHATEVER THE INPUT: true; the input reads as it did. -/
def fnLivingGroupsAZombieChangesOnlyItsOwnGroupSpec : ChangeSpec := { name := "fnLivingGroupsAZombieChangesOnlyItsOwnGroup", fn := fun _ => fun
  | [d1, d2, d3, d4] => { results := [.lit (.bool true)], args := [d1, d2, d3, d4] }
  | _ => none }
def fnLivingGroupsAZombieChangesOnlyItsOwnGroupRow : OpenClaim := { program := "qxb6600948a", sum := "2aa4472389e787f98bac7c060c36e909c5986587b1a9643a3873730408fb87d6", func := "example.com/twelvetide/twelvetide/zzlaws_stack_b1.FnLivingGroupsAZombieChangesOnlyItsOwnGroup", spec := "fnLivingGroupsAZombieChangesOnlyItsOwnGroup", apart := false }
def FnLivingGroupsAZombieChangesOnlyItsOwnGroupSaid : Prop := fnLivingGroupsAZombieChangesOnlyItsOwnGroupRow.holds Try.pinned (OpenSpec.ofChange fnLivingGroupsAZombieChangesOnlyItsOwnGroupSpec)

/-- ITS FALSE NEIGHBOUR: 'it returns false'. Refute it at one input. -/
def fnLivingGroupsAZombieChangesOnlyItsOwnGroupWrong : ChangeSpec := { name := "fnLivingGroupsAZombieChangesOnlyItsOwnGroup", fn := fun _ => fun
  | [d1, d2, d3, d4] => { results := [.lit (.bool false)], args := [d1, d2, d3, d4] }
  | _ => none }
def FnLivingGroupsAZombieChangesOnlyItsOwnGroupWrongFalsely : Prop := fnLivingGroupsAZombieChangesOnlyItsOwnGroupRow.holds Try.pinned (OpenSpec.ofChange fnLivingGroupsAZombieChangesOnlyItsOwnGroupWrong)

end Rows
end Go.Proofs.Qxb6600948a
