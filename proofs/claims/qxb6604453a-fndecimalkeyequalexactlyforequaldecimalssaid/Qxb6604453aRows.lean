/-
  No cell of these rows narrows 'for every input' (looked for: loops, veiled, ifaces, maps, wideKeys, modest, calm, conditions, laid).
  DERIVED. THE GIVEN ROWS OF THIS SEAT. 3 by the template 'for every input the law returns true; each argument reads behind the call as it read before'; 0 by the template 'total and deterministic' (their statements: Qxb6604453aTotals.lean).
  GIVEN WITH THE SEED: the statements are not yours to turn. If you find one false, say at which input.
  Laid BY PROGRAM, IN A SANDBOX (cutbox-rows.mjs): the forced cells as the released guide's own fill.sh prints them over the translation 6e4d0d8989afd0a9… (all of the seat's roots in one cut). By AI agents, Wed Nov 11 2026. No macro, syntax, notation, axiom, sorry.
-/
import Derived.Test.Qxb6604453aChecked
import GoSem.Claim
import GoSem.ClaimJoined
import GoSem.ClaimMapViews
import Derived.JoinedTies
import Derived.KernelRfl
namespace Go.Proofs.Qxb6604453a
/- THE CELL 'sum', in the pinned program and in every row, IS THE sha256 OF THE DUMP (.gsa) THAT Qxb6604453aProg.lean LOADS. Nothing in Lean hashes anything: it is a label: what it is worth is what the hold of that sum in a sandbox is worth. -/
noncomputable def Try.pinned : Pinned := { name := "qxb6604453a", sum := "6e4d0d8989afd0a93a9d8aad915cef9d46ad76a02c0ea806c6641c936ce507c8", checked := Try.checked }
namespace Rows
def none {H : Type} : Left H := { results := [], args := [] }

/-- 'zzlaws_internal_engine_b1.FnDecimalKeyEqualExactlyForEqualDecimals': WHATEVER THE INPUT: true; the input reads as it did. -/
def fnDecimalKeyEqualExactlyForEqualDecimalsSpec : ChangeSpec := { name := "fnDecimalKeyEqualExactlyForEqualDecimals", fn := fun _ => fun
  | [d1, d2, d3, d4, d5, d6, d7, d8, d9, d10, d11, d12] => { results := [.lit (.bool true)], args := [d1, d2, d3, d4, d5, d6, d7, d8, d9, d10, d11, d12] }
  | _ => none }
def fnDecimalKeyEqualExactlyForEqualDecimalsRow : OpenClaim := { program := "qxb6604453a", sum := "6e4d0d8989afd0a93a9d8aad915cef9d46ad76a02c0ea806c6641c936ce507c8", func := "example.com/measured-flags/measured-flags/zzlaws_internal_engine_b1.FnDecimalKeyEqualExactlyForEqualDecimals", spec := "fnDecimalKeyEqualExactlyForEqualDecimals", apart := false }
def FnDecimalKeyEqualExactlyForEqualDecimalsSaid : Prop := fnDecimalKeyEqualExactlyForEqualDecimalsRow.holds Try.pinned (OpenSpec.ofChange fnDecimalKeyEqualExactlyForEqualDecimalsSpec)

/-- ITS FALSE NEIGHBOUR: 'it returns false'. Refute it at one input. -/
def fnDecimalKeyEqualExactlyForEqualDecimalsWrong : ChangeSpec := { name := "fnDecimalKeyEqualExactlyForEqualDecimals", fn := fun _ => fun
  | [d1, d2, d3, d4, d5, d6, d7, d8, d9, d10, d11, d12] => { results := [.lit (.bool false)], args := [d1, d2, d3, d4, d5, d6, d7, d8, d9, d10, d11, d12] }
  | _ => none }
def FnDecimalKeyEqualExactlyForEqualDecimalsWrongFalsely : Prop := fnDecimalKeyEqualExactlyForEqualDecimalsRow.holds Try.pinned (OpenSpec.ofChange fnDecimalKeyEqualExactlyForEqualDecimalsWrong)

/-- 'zzlaws_internal_engine_b1.FnEnterRecordsEveryKeyAndItsLastPlace': WHATEVER THE INPUT: true; the input reads as it did. -/
def fnEnterRecordsEveryKeyAndItsLastPlaceSpec : ChangeSpec := { name := "fnEnterRecordsEveryKeyAndItsLastPlace", fn := fun _ => fun
  | [d] => { results := [.lit (.bool true)], args := [d] }
  | _ => none }
def fnEnterRecordsEveryKeyAndItsLastPlaceRow : OpenClaim := { program := "qxb6604453a", sum := "6e4d0d8989afd0a93a9d8aad915cef9d46ad76a02c0ea806c6641c936ce507c8", func := "example.com/measured-flags/measured-flags/zzlaws_internal_engine_b1.FnEnterRecordsEveryKeyAndItsLastPlace", spec := "fnEnterRecordsEveryKeyAndItsLastPlace", apart := false }
def FnEnterRecordsEveryKeyAndItsLastPlaceSaid : Prop := fnEnterRecordsEveryKeyAndItsLastPlaceRow.holds Try.pinned (OpenSpec.ofChange fnEnterRecordsEveryKeyAndItsLastPlaceSpec)

/-- ITS FALSE NEIGHBOUR: 'it returns false'. Refute it at one input. -/
def fnEnterRecordsEveryKeyAndItsLastPlaceWrong : ChangeSpec := { name := "fnEnterRecordsEveryKeyAndItsLastPlace", fn := fun _ => fun
  | [d] => { results := [.lit (.bool false)], args := [d] }
  | _ => none }
def FnEnterRecordsEveryKeyAndItsLastPlaceWrongFalsely : Prop := fnEnterRecordsEveryKeyAndItsLastPlaceRow.holds Try.pinned (OpenSpec.ofChange fnEnterRecordsEveryKeyAndItsLastPlaceWrong)

/-- 'zzlaws_internal_engine_b1.FnEnterKeepsOnPathAtAStepOfItsKey': WHATEVER THE INPUT: true; the input reads as it did. -/
def fnEnterKeepsOnPathAtAStepOfItsKeySpec : ChangeSpec := { name := "fnEnterKeepsOnPathAtAStepOfItsKey", fn := fun _ => fun
  | [d] => { results := [.lit (.bool true)], args := [d] }
  | _ => none }
def fnEnterKeepsOnPathAtAStepOfItsKeyRow : OpenClaim := { program := "qxb6604453a", sum := "6e4d0d8989afd0a93a9d8aad915cef9d46ad76a02c0ea806c6641c936ce507c8", func := "example.com/measured-flags/measured-flags/zzlaws_internal_engine_b1.FnEnterKeepsOnPathAtAStepOfItsKey", spec := "fnEnterKeepsOnPathAtAStepOfItsKey", apart := false }
def FnEnterKeepsOnPathAtAStepOfItsKeySaid : Prop := fnEnterKeepsOnPathAtAStepOfItsKeyRow.holds Try.pinned (OpenSpec.ofChange fnEnterKeepsOnPathAtAStepOfItsKeySpec)

/-- ITS FALSE NEIGHBOUR: 'it returns false'. Refute it at one input. -/
def fnEnterKeepsOnPathAtAStepOfItsKeyWrong : ChangeSpec := { name := "fnEnterKeepsOnPathAtAStepOfItsKey", fn := fun _ => fun
  | [d] => { results := [.lit (.bool false)], args := [d] }
  | _ => none }
def FnEnterKeepsOnPathAtAStepOfItsKeyWrongFalsely : Prop := fnEnterKeepsOnPathAtAStepOfItsKeyRow.holds Try.pinned (OpenSpec.ofChange fnEnterKeepsOnPathAtAStepOfItsKeyWrong)

end Rows
end Go.Proofs.Qxb6604453a
