import Derived.Test.Qxb6003417aCp
namespace Go.Proofs.Qxb6003417a
open Go.ChangeShapes Go.WideShapes Go.ChangeAt Go.RowKit
set_option linter.unusedVariables false
set_option linter.unusedSimpArgs false

set_option maxRecDepth 100000 in
set_option maxHeartbeats 1000000 in
theorem law3_big (sa sb : Option Addr) (na nb ca cb : Nat) (an bn : Int) (w : World) (h1 : na ≤ 9223372036854775807) (h2 : nb ≤ 9223372036854775807) (h : 1048576 < na + nb) :
    Calls Try.prog 3 #[.slice sa na ca, .int .i64 an, .slice sb nb cb, .int .i64 bn] w fun e w' => e = .returned (.bool true) ∧ Below w.heap.size w w' := by
  by_cases ha : 1048576 < na
  · go_enter Try.func3, Try.ntmps3
    go_wp2_with (first | (go_at_call 10; go_in))
    go_ret
    exact ⟨rfl, Below.refl _ _⟩
  · by_cases hb : 1048576 < nb
    · go_enter Try.func3, Try.ntmps3
      go_wp2_with (first | (go_at_call 10; go_in))
      go_ret
      exact ⟨rfl, Below.refl _ _⟩
    · go_enter Try.func3, Try.ntmps3
      go_wp2_with (first | (go_at_call 10; go_in))
      go_ret
      exact ⟨rfl, Below.refl _ _⟩

set_option maxRecDepth 100000 in
set_option maxHeartbeats 1000000 in
theorem law3_out (sa sb : Option Addr) (na nb ca cb : Nat) (an bn : Int) (w : World) (h : na + nb ≤ 1048576) (ho : an < 0 ∨ (0 ≤ an ∧ 2 * (na : Int) < an) ∨ (0 ≤ an ∧ an ≤ 2 * (na : Int) ∧ bn < 0) ∨ (0 ≤ an ∧ an ≤ 2 * (na : Int) ∧ 0 ≤ bn ∧ 2 * (nb : Int) < bn)) :
    Calls Try.prog 3 #[.slice sa na ca, .int .i64 an, .slice sb nb cb, .int .i64 bn] w fun e w' => e = .returned (.bool true) ∧ Below w.heap.size w w' := by
  rcases ho with ha | ⟨h0, ha⟩ | ⟨h0, h1, ha⟩ | ⟨h0, h1, h2, ha⟩
  all_goals
    go_enter Try.func3, Try.ntmps3
    go_wp2_with (first | (go_at_call 10; go_in))
    go_ret
    exact ⟨rfl, Below.refl _ _⟩

end Go.Proofs.Qxb6003417a
