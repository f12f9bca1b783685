/-
  No cell of these rows narrows 'for every input' (looked for: loops, veiled, ifaces, maps, wideKeys, modest, calm, conditions, laid).
  DERIVED. THE GIVEN ROWS OF THIS SEAT. 6 by the template 'for every input the law returns true; each argument reads behind the call as it read before'; 0 by the template 'total and deterministic' (their statements: Qxb6602346aTotals.lean).
  GIVEN WITH THE SEED: the statements are not yours to turn. If you find one false, say at which input.
  Laid BY PROGRAM, IN A SANDBOX (cutbox-rows.mjs): the forced cells as the released guide's own fill.sh prints them over the translation 2a542b106b222e56… (all of the seat's roots in one cut). By AI agents, Wed Nov 11 2026. No macro, syntax, notation, axiom, sorry.
-/
import Derived.Test.Qxb6602346aChecked
import GoSem.Claim
import GoSem.ClaimJoined
import GoSem.ClaimMapViews
import Derived.JoinedTies
import Derived.KernelRfl
namespace Go.Proofs.Qxb6602346a
/- THE CELL 'sum', in the pinned program and in every row, IS THE sha256 OF THE DUMP (.gsa) THAT Qxb6602346aProg.lean LOADS. Nothing in Lean hashes anything: it is a label: what it is worth is what the hold of that sum in a sandbox is worth. -/
noncomputable def Try.pinned : Pinned := { name := "qxb6602346a", sum := "2a542b106b222e56935d801c87400e7fafce9583df883848e91dadb8ff6a52c4", checked := Try.checked }
namespace Rows
def none {H : Type} : Left H := { results := [], args := [] }

/-- 'zzlaws_internal_datatype_b1.FnJoinSpansMatchesBlockBoundaries': WHATEVER THE INPUT: true; the input reads as it did. -/
def fnJoinSpansMatchesBlockBoundariesSpec : ChangeSpec := { name := "fnJoinSpansMatchesBlockBoundaries", fn := fun _ => fun
  | [d1, d2] => { results := [.lit (.bool true)], args := [d1, d2] }
  | _ => none }
def fnJoinSpansMatchesBlockBoundariesRow : OpenClaim := { program := "qxb6602346a", sum := "2a542b106b222e56935d801c87400e7fafce9583df883848e91dadb8ff6a52c4", func := "example.com/syncline/syncline/zzlaws_internal_datatype_b1.FnJoinSpansMatchesBlockBoundaries", spec := "fnJoinSpansMatchesBlockBoundaries", apart := false }
def FnJoinSpansMatchesBlockBoundariesSaid : Prop := fnJoinSpansMatchesBlockBoundariesRow.holds Try.pinned (OpenSpec.ofChange fnJoinSpansMatchesBlockBoundariesSpec)

/-- ITS FALSE NEIGHBOUR: 'it returns false'. Refute it at one input. -/
def fnJoinSpansMatchesBlockBoundariesWrong : ChangeSpec := { name := "fnJoinSpansMatchesBlockBoundaries", fn := fun _ => fun
  | [d1, d2] => { results := [.lit (.bool false)], args := [d1, d2] }
  | _ => none }
def FnJoinSpansMatchesBlockBoundariesWrongFalsely : Prop := fnJoinSpansMatchesBlockBoundariesRow.holds Try.pinned (OpenSpec.ofChange fnJoinSpansMatchesBlockBoundariesWrong)

/-- 'zzlaws_internal_datatype_b1.FnJoinSpansIdempotentAndSeparated': WHATEVER THE INPUT: true; the input reads as it did. -/
def fnJoinSpansIdempotentAndSeparatedSpec : ChangeSpec := { name := "fnJoinSpansIdempotentAndSeparated", fn := fun _ => fun
  | [d1, d2] => { results := [.lit (.bool true)], args := [d1, d2] }
  | _ => none }
def fnJoinSpansIdempotentAndSeparatedRow : OpenClaim := { program := "qxb6602346a", sum := "2a542b106b222e56935d801c87400e7fafce9583df883848e91dadb8ff6a52c4", func := "example.com/syncline/syncline/zzlaws_internal_datatype_b1.FnJoinSpansIdempotentAndSeparated", spec := "fnJoinSpansIdempotentAndSeparated", apart := false }
def FnJoinSpansIdempotentAndSeparatedSaid : Prop := fnJoinSpansIdempotentAndSeparatedRow.holds Try.pinned (OpenSpec.ofChange fnJoinSpansIdempotentAndSeparatedSpec)

/-- ITS FALSE NEIGHBOUR: 'it returns false'. Refute it at one input. -/
def fnJoinSpansIdempotentAndSeparatedWrong : ChangeSpec := { name := "fnJoinSpansIdempotentAndSeparated", fn := fun _ => fun
  | [d1, d2] => { results := [.lit (.bool false)], args := [d1, d2] }
  | _ => none }
def FnJoinSpansIdempotentAndSeparatedWrongFalsely : Prop := fnJoinSpansIdempotentAndSeparatedRow.holds Try.pinned (OpenSpec.ofChange fnJoinSpansIdempotentAndSeparatedWrong)

/-- 'zzlaws_internal_datatype_b1.FnVisibleIndexCountsKeptOffsetsBefore': WHATEVER THE INPUT: true; the input reads as it did. -/
def fnVisibleIndexCountsKeptOffsetsBeforeSpec : ChangeSpec := { name := "fnVisibleIndexCountsKeptOffsetsBefore", fn := fun _ => fun
  | [d1, d2, d3] => { results := [.lit (.bool true)], args := [d1, d2, d3] }
  | _ => none }
def fnVisibleIndexCountsKeptOffsetsBeforeRow : OpenClaim := { program := "qxb6602346a", sum := "2a542b106b222e56935d801c87400e7fafce9583df883848e91dadb8ff6a52c4", func := "example.com/syncline/syncline/zzlaws_internal_datatype_b1.FnVisibleIndexCountsKeptOffsetsBefore", spec := "fnVisibleIndexCountsKeptOffsetsBefore", apart := false }
def FnVisibleIndexCountsKeptOffsetsBeforeSaid : Prop := fnVisibleIndexCountsKeptOffsetsBeforeRow.holds Try.pinned (OpenSpec.ofChange fnVisibleIndexCountsKeptOffsetsBeforeSpec)

/-- ITS FALSE NEIGHBOUR: 'it returns false'. Refute it at one input. -/
def fnVisibleIndexCountsKeptOffsetsBeforeWrong : ChangeSpec := { name := "fnVisibleIndexCountsKeptOffsetsBefore", fn := fun _ => fun
  | [d1, d2, d3] => { results := [.lit (.bool false)], args := [d1, d2, d3] }
  | _ => none }
def FnVisibleIndexCountsKeptOffsetsBeforeWrongFalsely : Prop := fnVisibleIndexCountsKeptOffsetsBeforeRow.holds Try.pinned (OpenSpec.ofChange fnVisibleIndexCountsKeptOffsetsBeforeWrong)

/-- 'zzlaws_internal_datatype_b1.FnVisibleIndexStrictlyIncreasing': WHATEVER THE INPUT: true; the input reads as it did. -/
def fnVisibleIndexStrictlyIncreasingSpec : ChangeSpec := { name := "fnVisibleIndexStrictlyIncreasing", fn := fun _ => fun
  | [d1, d2, d3, d4] => { results := [.lit (.bool true)], args := [d1, d2, d3, d4] }
  | _ => none }
def fnVisibleIndexStrictlyIncreasingRow : OpenClaim := { program := "qxb6602346a", sum := "2a542b106b222e56935d801c87400e7fafce9583df883848e91dadb8ff6a52c4", func := "example.com/syncline/syncline/zzlaws_internal_datatype_b1.FnVisibleIndexStrictlyIncreasing", spec := "fnVisibleIndexStrictlyIncreasing", apart := false }
def FnVisibleIndexStrictlyIncreasingSaid : Prop := fnVisibleIndexStrictlyIncreasingRow.holds Try.pinned (OpenSpec.ofChange fnVisibleIndexStrictlyIncreasingSpec)

/-- ITS FALSE NEIGHBOUR: 'it returns false'. Refute it at one input. -/
def fnVisibleIndexStrictlyIncreasingWrong : ChangeSpec := { name := "fnVisibleIndexStrictlyIncreasing", fn := fun _ => fun
  | [d1, d2, d3, d4] => { results := [.lit (.bool false)], args := [d1, d2, d3, d4] }
  | _ => none }
def FnVisibleIndexStrictlyIncreasingWrongFalsely : Prop := fnVisibleIndexStrictlyIncreasingRow.holds Try.pinned (OpenSpec.ofChange fnVisibleIndexStrictlyIncreasingWrong)

/-- 'zzlaws_internal_datatype_b1.FnFindLocatesIndexByPrefixSums': WHATEVER THE INPUT: true; the input reads as it did. -/
def fnFindLocatesIndexByPrefixSumsSpec : ChangeSpec := { name := "fnFindLocatesIndexByPrefixSums", fn := fun _ => fun
  | [d1, d2, d3, d4, d5, d6] => { results := [.lit (.bool true)], args := [d1, d2, d3, d4, d5, d6] }
  | _ => none }
def fnFindLocatesIndexByPrefixSumsRow : OpenClaim := { program := "qxb6602346a", sum := "2a542b106b222e56935d801c87400e7fafce9583df883848e91dadb8ff6a52c4", func := "example.com/syncline/syncline/zzlaws_internal_datatype_b1.FnFindLocatesIndexByPrefixSums", spec := "fnFindLocatesIndexByPrefixSums", apart := false }
def FnFindLocatesIndexByPrefixSumsSaid : Prop := fnFindLocatesIndexByPrefixSumsRow.holds Try.pinned (OpenSpec.ofChange fnFindLocatesIndexByPrefixSumsSpec)

/-- ITS FALSE NEIGHBOUR: 'it returns false'. Refute it at one input. -/
def fnFindLocatesIndexByPrefixSumsWrong : ChangeSpec := { name := "fnFindLocatesIndexByPrefixSums", fn := fun _ => fun
  | [d1, d2, d3, d4, d5, d6] => { results := [.lit (.bool false)], args := [d1, d2, d3, d4, d5, d6] }
  | _ => none }
def FnFindLocatesIndexByPrefixSumsWrongFalsely : Prop := fnFindLocatesIndexByPrefixSumsRow.holds Try.pinned (OpenSpec.ofChange fnFindLocatesIndexByPrefixSumsWrong)

/-- 'zzlaws_internal_datatype_b1.FnFindInvertsVisibleIndex': WHATEVER THE INPUT: true; the input reads as it did. -/
def fnFindInvertsVisibleIndexSpec : ChangeSpec := { name := "fnFindInvertsVisibleIndex", fn := fun _ => fun
  | [d1, d2, d3, d4] => { results := [.lit (.bool true)], args := [d1, d2, d3, d4] }
  | _ => none }
def fnFindInvertsVisibleIndexRow : OpenClaim := { program := "qxb6602346a", sum := "2a542b106b222e56935d801c87400e7fafce9583df883848e91dadb8ff6a52c4", func := "example.com/syncline/syncline/zzlaws_internal_datatype_b1.FnFindInvertsVisibleIndex", spec := "fnFindInvertsVisibleIndex", apart := false }
def FnFindInvertsVisibleIndexSaid : Prop := fnFindInvertsVisibleIndexRow.holds Try.pinned (OpenSpec.ofChange fnFindInvertsVisibleIndexSpec)

/-- ITS FALSE NEIGHBOUR: 'it returns false'. Refute it at one input. -/
def fnFindInvertsVisibleIndexWrong : ChangeSpec := { name := "fnFindInvertsVisibleIndex", fn := fun _ => fun
  | [d1, d2, d3, d4] => { results := [.lit (.bool false)], args := [d1, d2, d3, d4] }
  | _ => none }
def FnFindInvertsVisibleIndexWrongFalsely : Prop := fnFindInvertsVisibleIndexRow.holds Try.pinned (OpenSpec.ofChange fnFindInvertsVisibleIndexWrong)

end Rows
end Go.Proofs.Qxb6602346a
