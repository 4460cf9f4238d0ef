/-
  No cell of these rows narrows 'for every input' (looked for: loops, veiled, ifaces, maps, wideKeys, modest, calm, conditions, laid).
  DERIVED. THE GIVEN ROWS OF THIS SEAT. 3 by the template 'for every input the law returns true; each argument reads behind the call as it read before'; 0 by the template 'total and deterministic' (their statements: Qxb6601009aTotals.lean).
  GIVEN WITH THE SEED: the statements are not yours to turn. If you find one false, say at which input.
  Laid BY PROGRAM, IN A SANDBOX (cutbox-rows.mjs): the forced cells as the released guide's own fill.sh prints them over the translation 43ec6867bf039e1a… (all of the seat's roots in one cut). By AI agents, Wed Nov 11 2026. No macro, syntax, notation, axiom, sorry.
-/
import Derived.Test.Qxb6601009aChecked
import GoSem.Claim
import GoSem.ClaimJoined
import GoSem.ClaimMapViews
import Derived.JoinedTies
import Derived.KernelRfl
namespace Go.Proofs.Qxb6601009a
/- THE CELL 'sum', in the pinned program and in every row, IS THE sha256 OF THE DUMP (.gsa) THAT Qxb6601009aProg.lean LOADS. Nothing in Lean hashes anything: it is a label: what it is worth is what the hold of that sum in a sandbox is worth. -/
noncomputable def Try.pinned : Pinned := { name := "qxb6601009a", sum := "43ec6867bf039e1ad3e879926d7e27433945f6cc3608f41a34498213f46e0714", checked := Try.checked }
namespace Rows
def none {H : Type} : Left H := { results := [], args := [] }

/-- 'zzlaws_msgpack_b1.FnFixintReadsLongestPrefix': WHATEVER THE INPUT: true; the input reads as it did. -/
def fnFixintReadsLongestPrefixSpec : ChangeSpec := { name := "fnFixintReadsLongestPrefix", fn := fun _ => fun
  | [d] => { results := [.lit (.bool true)], args := [d] }
  | _ => none }
def fnFixintReadsLongestPrefixRow : OpenClaim := { program := "qxb6601009a", sum := "43ec6867bf039e1ad3e879926d7e27433945f6cc3608f41a34498213f46e0714", func := "example.com/narrow-token/narrow-token/zzlaws_msgpack_b1.FnFixintReadsLongestPrefix", spec := "fnFixintReadsLongestPrefix", apart := false }
def FnFixintReadsLongestPrefixSaid : Prop := fnFixintReadsLongestPrefixRow.holds Try.pinned (OpenSpec.ofChange fnFixintReadsLongestPrefixSpec)

/-- ITS FALSE NEIGHBOUR: 'it returns false'. Refute it at one input. -/
def fnFixintReadsLongestPrefixWrong : ChangeSpec := { name := "fnFixintReadsLongestPrefix", fn := fun _ => fun
  | [d] => { results := [.lit (.bool false)], args := [d] }
  | _ => none }
def FnFixintReadsLongestPrefixWrongFalsely : Prop := fnFixintReadsLongestPrefixRow.holds Try.pinned (OpenSpec.ofChange fnFixintReadsLongestPrefixWrong)

/-- 'zzlaws_msgpack_b1.FnFixedMonotoneInPer': WHATEVER THE INPUT: true; the input reads as it did. -/
def fnFixedMonotoneInPerSpec : ChangeSpec := { name := "fnFixedMonotoneInPer", fn := fun _ => fun
  | [d1, d2, d3, d4] => { results := [.lit (.bool true)], args := [d1, d2, d3, d4] }
  | _ => none }
def fnFixedMonotoneInPerRow : OpenClaim := { program := "qxb6601009a", sum := "43ec6867bf039e1ad3e879926d7e27433945f6cc3608f41a34498213f46e0714", func := "example.com/narrow-token/narrow-token/zzlaws_msgpack_b1.FnFixedMonotoneInPer", spec := "fnFixedMonotoneInPer", apart := false }
def FnFixedMonotoneInPerSaid : Prop := fnFixedMonotoneInPerRow.holds Try.pinned (OpenSpec.ofChange fnFixedMonotoneInPerSpec)

/-- ITS FALSE NEIGHBOUR: 'it returns false'. Refute it at one input. -/
def fnFixedMonotoneInPerWrong : ChangeSpec := { name := "fnFixedMonotoneInPer", fn := fun _ => fun
  | [d1, d2, d3, d4] => { results := [.lit (.bool false)], args := [d1, d2, d3, d4] }
  | _ => none }
def FnFixedMonotoneInPerWrongFalsely : Prop := fnFixedMonotoneInPerRow.holds Try.pinned (OpenSpec.ofChange fnFixedMonotoneInPerWrong)

/-- 'zzlaws_msgpack_b1.FnFixintFixedPartition': WHATEVER THE INPUT: true; the input reads as it did. -/
def fnFixintFixedPartitionSpec : ChangeSpec := { name := "fnFixintFixedPartition", fn := fun _ => fun
  | [d] => { results := [.lit (.bool true)], args := [d] }
  | _ => none }
def fnFixintFixedPartitionRow : OpenClaim := { program := "qxb6601009a", sum := "43ec6867bf039e1ad3e879926d7e27433945f6cc3608f41a34498213f46e0714", func := "example.com/narrow-token/narrow-token/zzlaws_msgpack_b1.FnFixintFixedPartition", spec := "fnFixintFixedPartition", apart := false }
def FnFixintFixedPartitionSaid : Prop := fnFixintFixedPartitionRow.holds Try.pinned (OpenSpec.ofChange fnFixintFixedPartitionSpec)

/-- ITS FALSE NEIGHBOUR: 'it returns false'. Refute it at one input. -/
def fnFixintFixedPartitionWrong : ChangeSpec := { name := "fnFixintFixedPartition", fn := fun _ => fun
  | [d] => { results := [.lit (.bool false)], args := [d] }
  | _ => none }
def FnFixintFixedPartitionWrongFalsely : Prop := fnFixintFixedPartitionRow.holds Try.pinned (OpenSpec.ofChange fnFixintFixedPartitionWrong)

end Rows
end Go.Proofs.Qxb6601009a
