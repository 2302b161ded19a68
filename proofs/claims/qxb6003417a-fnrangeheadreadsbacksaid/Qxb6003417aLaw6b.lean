import Derived.Test.Qxb6003417aBase
namespace Go.Proofs.Qxb6003417a
open Go.ChangeShapes Go.WideShapes Go.ChangeAt Go.RowKit
set_option linter.unusedVariables false
set_option linter.unusedSimpArgs false

set_option maxRecDepth 100000 in
set_option maxHeartbeats 4000000 in
theorem law6_big (sP sS sE sL : Option Addr) (nP nS nE nL cP cS cE cL : Nat) (after hasEnd more : Bool) (w : World)
    (h1 : nP ≤ 9223372036854775807) (h2 : nS ≤ 9223372036854775807) (h3 : nE ≤ 9223372036854775807) (h4 : nL ≤ 9223372036854775807) (hs : 1048576 < nP + nS + nE + nL) :
    Calls Try.prog 6 #[.slice sP nP cP, .slice sS nS cS, .bool after, .slice sE nE cE, .bool hasEnd, .bool more, .slice sL nL cL] w fun e w' => e = .returned (.bool true) ∧ Below w.heap.size w w' := by
  rcases (show 1048576 < nP ∨ (nP ≤ 1048576 ∧ 1048576 < nS) ∨ (nP ≤ 1048576 ∧ nS ≤ 1048576 ∧ 1048576 < nP + nS) ∨ (nP + nS ≤ 1048576 ∧ 1048576 < nE) ∨ (nP + nS ≤ 1048576 ∧ nE ≤ 1048576 ∧ 1048576 < nP + nS + nE) ∨ (nP + nS + nE ≤ 1048576 ∧ 1048576 < nL) ∨ (nP + nS + nE ≤ 1048576 ∧ nL ≤ 1048576 ∧ 1048576 < nP + nS + nE + nL) by omega) with a | ⟨a, b⟩ | ⟨a, b, c⟩ | ⟨a, b⟩ | ⟨a, b, c⟩ | ⟨a, b⟩ | ⟨a, b, c⟩
  all_goals
    go_enter Try.func6, Try.ntmps6
    go_wp2_with (first | (go_at_call 21; go_in))
    go_ret
    exact ⟨rfl, Below.refl _ _⟩

end Go.Proofs.Qxb6003417a
