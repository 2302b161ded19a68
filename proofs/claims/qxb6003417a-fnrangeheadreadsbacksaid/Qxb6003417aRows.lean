/-
  No cell of these rows narrows 'for every input' (looked for: loops, veiled, ifaces, maps, wideKeys, modest, calm, conditions, laid).
  DERIVED. THE GIVEN ROWS OF THIS SEAT. 7 by the template 'for every input the law returns true; each argument reads behind the call as it read before'; 0 by the template 'total and deterministic' (their statements: Qxb6003417aTotals.lean).
  GIVEN WITH THE SEED: the statements are not yours to turn. If you find one false, say at which input.
  Laid BY PROGRAM, IN A SANDBOX (cutbox-rows.mjs): the forced cells as the released guide's own fill.sh prints them over the translation f50cf6047e5ebc7f… (all of the seat's roots in one cut). By AI agents, Wed Nov 11 2026. No macro, syntax, notation, axiom, sorry.
-/
import Derived.Test.Qxb6003417aChecked
import GoSem.Claim
import GoSem.ClaimJoined
import GoSem.ClaimMapViews
import Derived.JoinedTies
import Derived.KernelRfl
namespace Go.Proofs.Qxb6003417a
/- THE CELL 'sum', in the pinned program and in every row, IS THE sha256 OF THE DUMP (.gsa) THAT Qxb6003417aProg.lean LOADS. Nothing in Lean hashes anything: it is a label: what it is worth is what the hold of that sum in a sandbox is worth. -/
noncomputable def Try.pinned : Pinned := { name := "qxb6003417a", sum := "f50cf6047e5ebc7fd304d0ea7d9ac333f9e2fbc782df4c1405035173c9036c0c", checked := Try.checked }
namespace Rows
def none {H : Type} : Left H := { results := [], args := [] }

/-- 'zzlaws_root_g1.FnCommonPrefixMatchesTokenByToken': WHATEVER THE INPUT: true; the input reads as it did. -/
def fnCommonPrefixMatchesTokenByTokenSpec : ChangeSpec := { name := "fnCommonPrefixMatchesTokenByToken", fn := fun _ => fun
  | [d1, d2, d3, d4] => { results := [.lit (.bool true)], args := [d1, d2, d3, d4] }
  | _ => none }
def fnCommonPrefixMatchesTokenByTokenRow : OpenClaim := { program := "qxb6003417a", sum := "f50cf6047e5ebc7fd304d0ea7d9ac333f9e2fbc782df4c1405035173c9036c0c", func := "example.com/proofstore/proofstore/zzlaws_root_g1.FnCommonPrefixMatchesTokenByToken", spec := "fnCommonPrefixMatchesTokenByToken", apart := false }
def FnCommonPrefixMatchesTokenByTokenSaid : Prop := fnCommonPrefixMatchesTokenByTokenRow.holds Try.pinned (OpenSpec.ofChange fnCommonPrefixMatchesTokenByTokenSpec)

/-- ITS FALSE NEIGHBOUR: 'it returns false'. Refute it at one input. -/
def fnCommonPrefixMatchesTokenByTokenWrong : ChangeSpec := { name := "fnCommonPrefixMatchesTokenByToken", fn := fun _ => fun
  | [d1, d2, d3, d4] => { results := [.lit (.bool false)], args := [d1, d2, d3, d4] }
  | _ => none }
def FnCommonPrefixMatchesTokenByTokenWrongFalsely : Prop := fnCommonPrefixMatchesTokenByTokenRow.holds Try.pinned (OpenSpec.ofChange fnCommonPrefixMatchesTokenByTokenWrong)

/-- 'zzlaws_root_g1.FnBatchAllocGivesFreshDisjointBuffers': WHATEVER THE INPUT: true; the input reads as it did. -/
def fnBatchAllocGivesFreshDisjointBuffersSpec : ChangeSpec := { name := "fnBatchAllocGivesFreshDisjointBuffers", fn := fun _ => fun
  | [d] => { results := [.lit (.bool true)], args := [d] }
  | _ => none }
def fnBatchAllocGivesFreshDisjointBuffersRow : OpenClaim := { program := "qxb6003417a", sum := "f50cf6047e5ebc7fd304d0ea7d9ac333f9e2fbc782df4c1405035173c9036c0c", func := "example.com/proofstore/proofstore/zzlaws_root_g1.FnBatchAllocGivesFreshDisjointBuffers", spec := "fnBatchAllocGivesFreshDisjointBuffers", apart := false }
def FnBatchAllocGivesFreshDisjointBuffersSaid : Prop := fnBatchAllocGivesFreshDisjointBuffersRow.holds Try.pinned (OpenSpec.ofChange fnBatchAllocGivesFreshDisjointBuffersSpec)

/-- ITS FALSE NEIGHBOUR: 'it returns false'. Refute it at one input. -/
def fnBatchAllocGivesFreshDisjointBuffersWrong : ChangeSpec := { name := "fnBatchAllocGivesFreshDisjointBuffers", fn := fun _ => fun
  | [d] => { results := [.lit (.bool false)], args := [d] }
  | _ => none }
def FnBatchAllocGivesFreshDisjointBuffersWrongFalsely : Prop := fnBatchAllocGivesFreshDisjointBuffersRow.holds Try.pinned (OpenSpec.ofChange fnBatchAllocGivesFreshDisjointBuffersWrong)

/-- 'zzlaws_root_g1.FnRangeTokenTestsAreSound': WHATEVER THE INPUT: true; the input reads as it did. -/
def fnRangeTokenTestsAreSoundSpec : ChangeSpec := { name := "fnRangeTokenTestsAreSound", fn := fun _ => fun
  | [d1, d2, d3, d4, d5, d6] => { results := [.lit (.bool true)], args := [d1, d2, d3, d4, d5, d6] }
  | _ => none }
def fnRangeTokenTestsAreSoundRow : OpenClaim := { program := "qxb6003417a", sum := "f50cf6047e5ebc7fd304d0ea7d9ac333f9e2fbc782df4c1405035173c9036c0c", func := "example.com/proofstore/proofstore/zzlaws_root_g1.FnRangeTokenTestsAreSound", spec := "fnRangeTokenTestsAreSound", inPlace := ["internal/bytealg.Compare"], apart := false }
def FnRangeTokenTestsAreSoundSaid : Prop := fnRangeTokenTestsAreSoundRow.holds Try.pinned (OpenSpec.ofChange fnRangeTokenTestsAreSoundSpec)

/-- ITS FALSE NEIGHBOUR: 'it returns false'. Refute it at one input. -/
def fnRangeTokenTestsAreSoundWrong : ChangeSpec := { name := "fnRangeTokenTestsAreSound", fn := fun _ => fun
  | [d1, d2, d3, d4, d5, d6] => { results := [.lit (.bool false)], args := [d1, d2, d3, d4, d5, d6] }
  | _ => none }
def FnRangeTokenTestsAreSoundWrongFalsely : Prop := fnRangeTokenTestsAreSoundRow.holds Try.pinned (OpenSpec.ofChange fnRangeTokenTestsAreSoundWrong)

/-- 'zzlaws_root_g1.FnRangeHeadReadsBack': WHATEVER THE INPUT: true; the input reads as it did. -/
def fnRangeHeadReadsBackSpec : ChangeSpec := { name := "fnRangeHeadReadsBack", fn := fun _ => fun
  | [d1, d2, d3, d4, d5, d6, d7] => { results := [.lit (.bool true)], args := [d1, d2, d3, d4, d5, d6, d7] }
  | _ => none }
def fnRangeHeadReadsBackRow : OpenClaim := { program := "qxb6003417a", sum := "f50cf6047e5ebc7fd304d0ea7d9ac333f9e2fbc782df4c1405035173c9036c0c", func := "example.com/proofstore/proofstore/zzlaws_root_g1.FnRangeHeadReadsBack", spec := "fnRangeHeadReadsBack", apart := false }
def FnRangeHeadReadsBackSaid : Prop := fnRangeHeadReadsBackRow.holds Try.pinned (OpenSpec.ofChange fnRangeHeadReadsBackSpec)

/-- ITS FALSE NEIGHBOUR: 'it returns false'. Refute it at one input. -/
def fnRangeHeadReadsBackWrong : ChangeSpec := { name := "fnRangeHeadReadsBack", fn := fun _ => fun
  | [d1, d2, d3, d4, d5, d6, d7] => { results := [.lit (.bool false)], args := [d1, d2, d3, d4, d5, d6, d7] }
  | _ => none }
def FnRangeHeadReadsBackWrongFalsely : Prop := fnRangeHeadReadsBackRow.holds Try.pinned (OpenSpec.ofChange fnRangeHeadReadsBackWrong)

/-- 'zzlaws_root_g1.FnNodeRecordReadsBack': WHATEVER THE INPUT: true; the input reads as it did. -/
def fnNodeRecordReadsBackSpec : ChangeSpec := { name := "fnNodeRecordReadsBack", fn := fun _ => fun
  | [d1, d2, d3, d4, d5, d6, d7, d8, d9] => { results := [.lit (.bool true)], args := [d1, d2, d3, d4, d5, d6, d7, d8, d9] }
  | _ => none }
def fnNodeRecordReadsBackRow : OpenClaim := { program := "qxb6003417a", sum := "f50cf6047e5ebc7fd304d0ea7d9ac333f9e2fbc782df4c1405035173c9036c0c", func := "example.com/proofstore/proofstore/zzlaws_root_g1.FnNodeRecordReadsBack", spec := "fnNodeRecordReadsBack", unfollowed := true, recurses := true, apart := false }
def FnNodeRecordReadsBackSaid : Prop := fnNodeRecordReadsBackRow.holds Try.pinned (OpenSpec.ofChange fnNodeRecordReadsBackSpec)

/-- ITS FALSE NEIGHBOUR: 'it returns false'. Refute it at one input. -/
def fnNodeRecordReadsBackWrong : ChangeSpec := { name := "fnNodeRecordReadsBack", fn := fun _ => fun
  | [d1, d2, d3, d4, d5, d6, d7, d8, d9] => { results := [.lit (.bool false)], args := [d1, d2, d3, d4, d5, d6, d7, d8, d9] }
  | _ => none }
def FnNodeRecordReadsBackWrongFalsely : Prop := fnNodeRecordReadsBackRow.holds Try.pinned (OpenSpec.ofChange fnNodeRecordReadsBackWrong)

/-- 'zzlaws_root_g1.FnNodeEncodingLengthsAgreeWithProofSize': WHATEVER THE INPUT: true; the input reads as it did. -/
def fnNodeEncodingLengthsAgreeWithProofSizeSpec : ChangeSpec := { name := "fnNodeEncodingLengthsAgreeWithProofSize", fn := fun _ => fun
  | [d1, d2, d3, d4, d5, d6, d7, d8] => { results := [.lit (.bool true)], args := [d1, d2, d3, d4, d5, d6, d7, d8] }
  | _ => none }
def fnNodeEncodingLengthsAgreeWithProofSizeRow : OpenClaim := { program := "qxb6003417a", sum := "f50cf6047e5ebc7fd304d0ea7d9ac333f9e2fbc782df4c1405035173c9036c0c", func := "example.com/proofstore/proofstore/zzlaws_root_g1.FnNodeEncodingLengthsAgreeWithProofSize", spec := "fnNodeEncodingLengthsAgreeWithProofSize", unfollowed := true, recurses := true, apart := false }
def FnNodeEncodingLengthsAgreeWithProofSizeSaid : Prop := fnNodeEncodingLengthsAgreeWithProofSizeRow.holds Try.pinned (OpenSpec.ofChange fnNodeEncodingLengthsAgreeWithProofSizeSpec)

/-- ITS FALSE NEIGHBOUR: 'it returns false'. Refute it at one input. -/
def fnNodeEncodingLengthsAgreeWithProofSizeWrong : ChangeSpec := { name := "fnNodeEncodingLengthsAgreeWithProofSize", fn := fun _ => fun
  | [d1, d2, d3, d4, d5, d6, d7, d8] => { results := [.lit (.bool false)], args := [d1, d2, d3, d4, d5, d6, d7, d8] }
  | _ => none }
def FnNodeEncodingLengthsAgreeWithProofSizeWrongFalsely : Prop := fnNodeEncodingLengthsAgreeWithProofSizeRow.holds Try.pinned (OpenSpec.ofChange fnNodeEncodingLengthsAgreeWithProofSizeWrong)

/-- 'zzlaws_root_g1.FnChildOffsetsPointAtOffsetsInRecord': WHATEVER THE INPUT: true; the input reads as it did. -/
def fnChildOffsetsPointAtOffsetsInRecordSpec : ChangeSpec := { name := "fnChildOffsetsPointAtOffsetsInRecord", fn := fun _ => fun
  | [d1, d2, d3, d4, d5, d6, d7, d8, d9, d10] => { results := [.lit (.bool true)], args := [d1, d2, d3, d4, d5, d6, d7, d8, d9, d10] }
  | _ => none }
def fnChildOffsetsPointAtOffsetsInRecordRow : OpenClaim := { program := "qxb6003417a", sum := "f50cf6047e5ebc7fd304d0ea7d9ac333f9e2fbc782df4c1405035173c9036c0c", func := "example.com/proofstore/proofstore/zzlaws_root_g1.FnChildOffsetsPointAtOffsetsInRecord", spec := "fnChildOffsetsPointAtOffsetsInRecord", unfollowed := true, recurses := true, apart := false }
def FnChildOffsetsPointAtOffsetsInRecordSaid : Prop := fnChildOffsetsPointAtOffsetsInRecordRow.holds Try.pinned (OpenSpec.ofChange fnChildOffsetsPointAtOffsetsInRecordSpec)

/-- ITS FALSE NEIGHBOUR: 'it returns false'. Refute it at one input. -/
def fnChildOffsetsPointAtOffsetsInRecordWrong : ChangeSpec := { name := "fnChildOffsetsPointAtOffsetsInRecord", fn := fun _ => fun
  | [d1, d2, d3, d4, d5, d6, d7, d8, d9, d10] => { results := [.lit (.bool false)], args := [d1, d2, d3, d4, d5, d6, d7, d8, d9, d10] }
  | _ => none }
def FnChildOffsetsPointAtOffsetsInRecordWrongFalsely : Prop := fnChildOffsetsPointAtOffsetsInRecordRow.holds Try.pinned (OpenSpec.ofChange fnChildOffsetsPointAtOffsetsInRecordWrong)

end Rows
end Go.Proofs.Qxb6003417a
