/-
  No cell of these rows narrows 'for every input' (looked for: loops, veiled, ifaces, maps, wideKeys, modest, calm, conditions, laid).
  DERIVED. THE GIVEN ROWS OF THIS SEAT. 4 by the template 'for every input the law returns true; each argument reads behind the call as it read before'; 0 by the template 'total and deterministic' (their statements: Qxb6602021aTotals.lean).
  GIVEN WITH THE SEED: the statements are not yours to turn. If you find one false, say at which input.
  Laid BY PROGRAM, IN A SANDBOX (cutbox-rows.mjs): the forced cells as the released guide's own fill.sh prints them over the translation 0165dc70340d8bd8… (all of the seat's roots in one cut). By AI agents, Wed Nov 11 2026. No macro, syntax, notation, axiom, sorry.
-/
import Derived.Test.Qxb6602021aChecked
import GoSem.Claim
import GoSem.ClaimJoined
import GoSem.ClaimMapViews
import Derived.JoinedTies
import Derived.KernelRfl
namespace Go.Proofs.Qxb6602021a
/- THE CELL 'sum', in the pinned program and in every row, IS THE sha256 OF THE DUMP (.gsa) THAT Qxb6602021aProg.lean LOADS. Nothing in Lean hashes anything: it is a label: what it is worth is what the hold of that sum in a sandbox is worth. -/
noncomputable def Try.pinned : Pinned := { name := "qxb6602021a", sum := "0165dc70340d8bd87e922795911b709f434375fa4a522a7e517e1b8648283836", checked := Try.checked }
namespace Rows
def none {H : Type} : Left H := { results := [], args := [] }

/-- 'zzlaws_root_b1.FnIDNextAddsOne': WHATEVER THE INPUT: true; the input reads as it did. -/
def fnIDNextAddsOneSpec : ChangeSpec := { name := "fnIDNextAddsOne", fn := fun _ => fun
  | [d] => { results := [.lit (.bool true)], args := [d] }
  | _ => none }
def fnIDNextAddsOneRow : OpenClaim := { program := "qxb6602021a", sum := "0165dc70340d8bd87e922795911b709f434375fa4a522a7e517e1b8648283836", func := "example.com/spanroot/spanroot/zzlaws_root_b1.FnIDNextAddsOne", spec := "fnIDNextAddsOne", plainKeys := false, apart := false }
def FnIDNextAddsOneSaid : Prop := fnIDNextAddsOneRow.holds Try.pinned (OpenSpec.ofChange fnIDNextAddsOneSpec)

/-- ITS FALSE NEIGHBOUR: 'it returns false'. Refute it at one input. -/
def fnIDNextAddsOneWrong : ChangeSpec := { name := "fnIDNextAddsOne", fn := fun _ => fun
  | [d] => { results := [.lit (.bool false)], args := [d] }
  | _ => none }
def FnIDNextAddsOneWrongFalsely : Prop := fnIDNextAddsOneRow.holds Try.pinned (OpenSpec.ofChange fnIDNextAddsOneWrong)

/-- 'zzlaws_root_b1.FnIDNextIsLeastGreater': WHATEVER THE INPUT: true; the input reads as it did. -/
def fnIDNextIsLeastGreaterSpec : ChangeSpec := { name := "fnIDNextIsLeastGreater", fn := fun _ => fun
  | [d1, d2] => { results := [.lit (.bool true)], args := [d1, d2] }
  | _ => none }
def fnIDNextIsLeastGreaterRow : OpenClaim := { program := "qxb6602021a", sum := "0165dc70340d8bd87e922795911b709f434375fa4a522a7e517e1b8648283836", func := "example.com/spanroot/spanroot/zzlaws_root_b1.FnIDNextIsLeastGreater", spec := "fnIDNextIsLeastGreater", plainKeys := false, apart := false }
def FnIDNextIsLeastGreaterSaid : Prop := fnIDNextIsLeastGreaterRow.holds Try.pinned (OpenSpec.ofChange fnIDNextIsLeastGreaterSpec)

/-- ITS FALSE NEIGHBOUR: 'it returns false'. Refute it at one input. -/
def fnIDNextIsLeastGreaterWrong : ChangeSpec := { name := "fnIDNextIsLeastGreater", fn := fun _ => fun
  | [d1, d2] => { results := [.lit (.bool false)], args := [d1, d2] }
  | _ => none }
def FnIDNextIsLeastGreaterWrongFalsely : Prop := fnIDNextIsLeastGreaterRow.holds Try.pinned (OpenSpec.ofChange fnIDNextIsLeastGreaterWrong)

/-- 'zzlaws_root_b1.FnSeenChainScriptMatchesHistory': WHATEVER THE INPUT: true; the input reads as it did. -/
def fnSeenChainScriptMatchesHistorySpec : ChangeSpec := { name := "fnSeenChainScriptMatchesHistory", fn := fun _ => fun
  | [d1, d2, d3] => { results := [.lit (.bool true)], args := [d1, d2, d3] }
  | _ => none }
def fnSeenChainScriptMatchesHistoryRow : OpenClaim := { program := "qxb6602021a", sum := "0165dc70340d8bd87e922795911b709f434375fa4a522a7e517e1b8648283836", func := "example.com/spanroot/spanroot/zzlaws_root_b1.FnSeenChainScriptMatchesHistory", spec := "fnSeenChainScriptMatchesHistory", plainKeys := false, apart := false }
def FnSeenChainScriptMatchesHistorySaid : Prop := fnSeenChainScriptMatchesHistoryRow.holds Try.pinned (OpenSpec.ofChange fnSeenChainScriptMatchesHistorySpec)

/-- ITS FALSE NEIGHBOUR: 'it returns false'. Refute it at one input. -/
def fnSeenChainScriptMatchesHistoryWrong : ChangeSpec := { name := "fnSeenChainScriptMatchesHistory", fn := fun _ => fun
  | [d1, d2, d3] => { results := [.lit (.bool false)], args := [d1, d2, d3] }
  | _ => none }
def FnSeenChainScriptMatchesHistoryWrongFalsely : Prop := fnSeenChainScriptMatchesHistoryRow.holds Try.pinned (OpenSpec.ofChange fnSeenChainScriptMatchesHistoryWrong)

/-- 'zzlaws_root_b1.FnSeenChainBurstOnOneMessage': WHATEVER THE INPUT: true; the input reads as it did. -/
def fnSeenChainBurstOnOneMessageSpec : ChangeSpec := { name := "fnSeenChainBurstOnOneMessage", fn := fun _ => fun
  | [d1, d2, d3, d4] => { results := [.lit (.bool true)], args := [d1, d2, d3, d4] }
  | _ => none }
def fnSeenChainBurstOnOneMessageRow : OpenClaim := { program := "qxb6602021a", sum := "0165dc70340d8bd87e922795911b709f434375fa4a522a7e517e1b8648283836", func := "example.com/spanroot/spanroot/zzlaws_root_b1.FnSeenChainBurstOnOneMessage", spec := "fnSeenChainBurstOnOneMessage", plainKeys := false, apart := false }
def FnSeenChainBurstOnOneMessageSaid : Prop := fnSeenChainBurstOnOneMessageRow.holds Try.pinned (OpenSpec.ofChange fnSeenChainBurstOnOneMessageSpec)

/-- ITS FALSE NEIGHBOUR: 'it returns false'. Refute it at one input. -/
def fnSeenChainBurstOnOneMessageWrong : ChangeSpec := { name := "fnSeenChainBurstOnOneMessage", fn := fun _ => fun
  | [d1, d2, d3, d4] => { results := [.lit (.bool false)], args := [d1, d2, d3, d4] }
  | _ => none }
def FnSeenChainBurstOnOneMessageWrongFalsely : Prop := fnSeenChainBurstOnOneMessageRow.holds Try.pinned (OpenSpec.ofChange fnSeenChainBurstOnOneMessageWrong)

end Rows
end Go.Proofs.Qxb6602021a
