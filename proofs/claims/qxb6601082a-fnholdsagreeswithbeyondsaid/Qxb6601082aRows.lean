/-
  No cell of these rows narrows 'for every input' (looked for: loops, veiled, ifaces, maps, wideKeys, modest, calm, conditions, laid).
  DERIVED. THE GIVEN ROWS OF THIS SEAT. 8 by the template 'for every input the law returns true; each argument reads behind the call as it read before'; 0 by the template 'total and deterministic' (their statements: Qxb6601082aTotals.lean).
  GIVEN WITH THE SEED: the statements are not yours to turn. If you find one false, say at which input.
  Laid BY PROGRAM, IN A SANDBOX (cutbox-rows.mjs): the forced cells as the released guide's own fill.sh prints them over the translation 66fda51881f0d46f… (all of the seat's roots in one cut). By AI agents, Wed Nov 11 2026. No macro, syntax, notation, axiom, sorry.
-/
import Derived.Test.Qxb6601082aChecked
import GoSem.Claim
import GoSem.ClaimJoined
import GoSem.ClaimMapViews
import Derived.JoinedTies
import Derived.KernelRfl
namespace Go.Proofs.Qxb6601082a
/- THE CELL 'sum', in the pinned program and in every row, IS THE sha256 OF THE DUMP (.gsa) THAT Qxb6601082aProg.lean LOADS. Nothing in Lean hashes anything: it is a label: what it is worth is what the hold of that sum in a sandbox is worth. -/
noncomputable def Try.pinned : Pinned := { name := "qxb6601082a", sum := "66fda51881f0d46fc35edc4b9803a0331fecc578462184bdfda6a30847032350", checked := Try.checked }
namespace Rows
def none {H : Type} : Left H := { results := [], args := [] }

/-- 'zzlaws_internal_config_b1.FnBeyondExactValue': WHATEVER THE INPUT: true; the input reads as it did. -/
def fnBeyondExactValueSpec : ChangeSpec := { name := "fnBeyondExactValue", fn := fun _ => fun
  | [d1, d2, d3, d4, d5, d6] => { results := [.lit (.bool true)], args := [d1, d2, d3, d4, d5, d6] }
  | _ => none }
def fnBeyondExactValueRow : OpenClaim := { program := "qxb6601082a", sum := "66fda51881f0d46fc35edc4b9803a0331fecc578462184bdfda6a30847032350", func := "example.com/sluicegate/sluicegate/zzlaws_internal_config_b1.FnBeyondExactValue", spec := "fnBeyondExactValue", apart := false }
def FnBeyondExactValueSaid : Prop := fnBeyondExactValueRow.holds Try.pinned (OpenSpec.ofChange fnBeyondExactValueSpec)

/-- ITS FALSE NEIGHBOUR: 'it returns false'. Refute it at one input. -/
def fnBeyondExactValueWrong : ChangeSpec := { name := "fnBeyondExactValue", fn := fun _ => fun
  | [d1, d2, d3, d4, d5, d6] => { results := [.lit (.bool false)], args := [d1, d2, d3, d4, d5, d6] }
  | _ => none }
def FnBeyondExactValueWrongFalsely : Prop := fnBeyondExactValueRow.holds Try.pinned (OpenSpec.ofChange fnBeyondExactValueWrong)

/-- 'zzlaws_internal_config_b1.FnBeyondWiderBoundsFlagLess': WHATEVER THE INPUT: true; the input reads as it did. -/
def fnBeyondWiderBoundsFlagLessSpec : ChangeSpec := { name := "fnBeyondWiderBoundsFlagLess", fn := fun _ => fun
  | [d1, d2, d3, d4, d5, d6, d7, d8] => { results := [.lit (.bool true)], args := [d1, d2, d3, d4, d5, d6, d7, d8] }
  | _ => none }
def fnBeyondWiderBoundsFlagLessRow : OpenClaim := { program := "qxb6601082a", sum := "66fda51881f0d46fc35edc4b9803a0331fecc578462184bdfda6a30847032350", func := "example.com/sluicegate/sluicegate/zzlaws_internal_config_b1.FnBeyondWiderBoundsFlagLess", spec := "fnBeyondWiderBoundsFlagLess", apart := false }
def FnBeyondWiderBoundsFlagLessSaid : Prop := fnBeyondWiderBoundsFlagLessRow.holds Try.pinned (OpenSpec.ofChange fnBeyondWiderBoundsFlagLessSpec)

/-- ITS FALSE NEIGHBOUR: 'it returns false'. Refute it at one input. -/
def fnBeyondWiderBoundsFlagLessWrong : ChangeSpec := { name := "fnBeyondWiderBoundsFlagLess", fn := fun _ => fun
  | [d1, d2, d3, d4, d5, d6, d7, d8] => { results := [.lit (.bool false)], args := [d1, d2, d3, d4, d5, d6, d7, d8] }
  | _ => none }
def FnBeyondWiderBoundsFlagLessWrongFalsely : Prop := fnBeyondWiderBoundsFlagLessRow.holds Try.pinned (OpenSpec.ofChange fnBeyondWiderBoundsFlagLessWrong)

/-- 'zzlaws_internal_config_b1.FnHoldsExactValue': WHATEVER THE INPUT: true; the input reads as it did. -/
def fnHoldsExactValueSpec : ChangeSpec := { name := "fnHoldsExactValue", fn := fun _ => fun
  | [d1, d2, d3, d4, d5, d6, d7, d8] => { results := [.lit (.bool true)], args := [d1, d2, d3, d4, d5, d6, d7, d8] }
  | _ => none }
def fnHoldsExactValueRow : OpenClaim := { program := "qxb6601082a", sum := "66fda51881f0d46fc35edc4b9803a0331fecc578462184bdfda6a30847032350", func := "example.com/sluicegate/sluicegate/zzlaws_internal_config_b1.FnHoldsExactValue", spec := "fnHoldsExactValue", apart := false }
def FnHoldsExactValueSaid : Prop := fnHoldsExactValueRow.holds Try.pinned (OpenSpec.ofChange fnHoldsExactValueSpec)

/-- ITS FALSE NEIGHBOUR: 'it returns false'. Refute it at one input. -/
def fnHoldsExactValueWrong : ChangeSpec := { name := "fnHoldsExactValue", fn := fun _ => fun
  | [d1, d2, d3, d4, d5, d6, d7, d8] => { results := [.lit (.bool false)], args := [d1, d2, d3, d4, d5, d6, d7, d8] }
  | _ => none }
def FnHoldsExactValueWrongFalsely : Prop := fnHoldsExactValueRow.holds Try.pinned (OpenSpec.ofChange fnHoldsExactValueWrong)

/-- 'zzlaws_internal_config_b1.FnHoldsWiderBoundsHoldMore': WHATEVER THE INPUT: true; the input reads as it did. -/
def fnHoldsWiderBoundsHoldMoreSpec : ChangeSpec := { name := "fnHoldsWiderBoundsHoldMore", fn := fun _ => fun
  | [d1, d2, d3, d4, d5, d6, d7, d8, d9, d10, d11, d12] => { results := [.lit (.bool true)], args := [d1, d2, d3, d4, d5, d6, d7, d8, d9, d10, d11, d12] }
  | _ => none }
def fnHoldsWiderBoundsHoldMoreRow : OpenClaim := { program := "qxb6601082a", sum := "66fda51881f0d46fc35edc4b9803a0331fecc578462184bdfda6a30847032350", func := "example.com/sluicegate/sluicegate/zzlaws_internal_config_b1.FnHoldsWiderBoundsHoldMore", spec := "fnHoldsWiderBoundsHoldMore", apart := false }
def FnHoldsWiderBoundsHoldMoreSaid : Prop := fnHoldsWiderBoundsHoldMoreRow.holds Try.pinned (OpenSpec.ofChange fnHoldsWiderBoundsHoldMoreSpec)

/-- ITS FALSE NEIGHBOUR: 'it returns false'. Refute it at one input. -/
def fnHoldsWiderBoundsHoldMoreWrong : ChangeSpec := { name := "fnHoldsWiderBoundsHoldMore", fn := fun _ => fun
  | [d1, d2, d3, d4, d5, d6, d7, d8, d9, d10, d11, d12] => { results := [.lit (.bool false)], args := [d1, d2, d3, d4, d5, d6, d7, d8, d9, d10, d11, d12] }
  | _ => none }
def FnHoldsWiderBoundsHoldMoreWrongFalsely : Prop := fnHoldsWiderBoundsHoldMoreRow.holds Try.pinned (OpenSpec.ofChange fnHoldsWiderBoundsHoldMoreWrong)

/-- 'zzlaws_internal_config_b1.FnHoldsAgreesWithBeyond': WHATEVER THE INPUT: true; the input reads as it did. -/
def fnHoldsAgreesWithBeyondSpec : ChangeSpec := { name := "fnHoldsAgreesWithBeyond", fn := fun _ => fun
  | [d1, d2, d3, d4, d5] => { results := [.lit (.bool true)], args := [d1, d2, d3, d4, d5] }
  | _ => none }
def fnHoldsAgreesWithBeyondRow : OpenClaim := { program := "qxb6601082a", sum := "66fda51881f0d46fc35edc4b9803a0331fecc578462184bdfda6a30847032350", func := "example.com/sluicegate/sluicegate/zzlaws_internal_config_b1.FnHoldsAgreesWithBeyond", spec := "fnHoldsAgreesWithBeyond", apart := false }
def FnHoldsAgreesWithBeyondSaid : Prop := fnHoldsAgreesWithBeyondRow.holds Try.pinned (OpenSpec.ofChange fnHoldsAgreesWithBeyondSpec)

/-- ITS FALSE NEIGHBOUR: 'it returns false'. Refute it at one input. -/
def fnHoldsAgreesWithBeyondWrong : ChangeSpec := { name := "fnHoldsAgreesWithBeyond", fn := fun _ => fun
  | [d1, d2, d3, d4, d5] => { results := [.lit (.bool false)], args := [d1, d2, d3, d4, d5] }
  | _ => none }
def FnHoldsAgreesWithBeyondWrongFalsely : Prop := fnHoldsAgreesWithBeyondRow.holds Try.pinned (OpenSpec.ofChange fnHoldsAgreesWithBeyondWrong)

/-- 'zzlaws_internal_config_b1.FnWithinOneEditExact': WHATEVER THE INPUT: true; the input reads as it did. -/
def fnWithinOneEditExactSpec : ChangeSpec := { name := "fnWithinOneEditExact", fn := fun _ => fun
  | [d1, d2] => { results := [.lit (.bool true)], args := [d1, d2] }
  | _ => none }
def fnWithinOneEditExactRow : OpenClaim := { program := "qxb6601082a", sum := "66fda51881f0d46fc35edc4b9803a0331fecc578462184bdfda6a30847032350", func := "example.com/sluicegate/sluicegate/zzlaws_internal_config_b1.FnWithinOneEditExact", spec := "fnWithinOneEditExact", apart := false }
def FnWithinOneEditExactSaid : Prop := fnWithinOneEditExactRow.holds Try.pinned (OpenSpec.ofChange fnWithinOneEditExactSpec)

/-- ITS FALSE NEIGHBOUR: 'it returns false'. Refute it at one input. -/
def fnWithinOneEditExactWrong : ChangeSpec := { name := "fnWithinOneEditExact", fn := fun _ => fun
  | [d1, d2] => { results := [.lit (.bool false)], args := [d1, d2] }
  | _ => none }
def FnWithinOneEditExactWrongFalsely : Prop := fnWithinOneEditExactRow.holds Try.pinned (OpenSpec.ofChange fnWithinOneEditExactWrong)

/-- 'zzlaws_internal_config_b1.FnWithinOneEditSymmetric': WHATEVER THE INPUT: true; the input reads as it did. -/
def fnWithinOneEditSymmetricSpec : ChangeSpec := { name := "fnWithinOneEditSymmetric", fn := fun _ => fun
  | [d1, d2] => { results := [.lit (.bool true)], args := [d1, d2] }
  | _ => none }
def fnWithinOneEditSymmetricRow : OpenClaim := { program := "qxb6601082a", sum := "66fda51881f0d46fc35edc4b9803a0331fecc578462184bdfda6a30847032350", func := "example.com/sluicegate/sluicegate/zzlaws_internal_config_b1.FnWithinOneEditSymmetric", spec := "fnWithinOneEditSymmetric", apart := false }
def FnWithinOneEditSymmetricSaid : Prop := fnWithinOneEditSymmetricRow.holds Try.pinned (OpenSpec.ofChange fnWithinOneEditSymmetricSpec)

/-- ITS FALSE NEIGHBOUR: 'it returns false'. Refute it at one input. -/
def fnWithinOneEditSymmetricWrong : ChangeSpec := { name := "fnWithinOneEditSymmetric", fn := fun _ => fun
  | [d1, d2] => { results := [.lit (.bool false)], args := [d1, d2] }
  | _ => none }
def FnWithinOneEditSymmetricWrongFalsely : Prop := fnWithinOneEditSymmetricRow.holds Try.pinned (OpenSpec.ofChange fnWithinOneEditSymmetricWrong)

/-- 'zzlaws_internal_config_b1.FnWithinOneEditAcceptsEverySingleEdit': WHATEVER THE INPUT: true; the input reads as it did. -/
def fnWithinOneEditAcceptsEverySingleEditSpec : ChangeSpec := { name := "fnWithinOneEditAcceptsEverySingleEdit", fn := fun _ => fun
  | [d1, d2, d3] => { results := [.lit (.bool true)], args := [d1, d2, d3] }
  | _ => none }
def fnWithinOneEditAcceptsEverySingleEditRow : OpenClaim := { program := "qxb6601082a", sum := "66fda51881f0d46fc35edc4b9803a0331fecc578462184bdfda6a30847032350", func := "example.com/sluicegate/sluicegate/zzlaws_internal_config_b1.FnWithinOneEditAcceptsEverySingleEdit", spec := "fnWithinOneEditAcceptsEverySingleEdit", apart := false }
def FnWithinOneEditAcceptsEverySingleEditSaid : Prop := fnWithinOneEditAcceptsEverySingleEditRow.holds Try.pinned (OpenSpec.ofChange fnWithinOneEditAcceptsEverySingleEditSpec)

/-- ITS FALSE NEIGHBOUR: 'it returns false'. Refute it at one input. -/
def fnWithinOneEditAcceptsEverySingleEditWrong : ChangeSpec := { name := "fnWithinOneEditAcceptsEverySingleEdit", fn := fun _ => fun
  | [d1, d2, d3] => { results := [.lit (.bool false)], args := [d1, d2, d3] }
  | _ => none }
def FnWithinOneEditAcceptsEverySingleEditWrongFalsely : Prop := fnWithinOneEditAcceptsEverySingleEditRow.holds Try.pinned (OpenSpec.ofChange fnWithinOneEditAcceptsEverySingleEditWrong)

end Rows
end Go.Proofs.Qxb6601082a
