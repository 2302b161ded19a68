/- The bound on total length: whatever it answers, it only reads. -/
import Derived.Test.Qxb6602021aZs
namespace Go.Proofs.Qxb6602021a
open Go.ChangeShapes Go.WideShapes Go.ChangeAt Go.RowKit
set_option linter.unusedVariables false
set_option linter.unusedSimpArgs false

/-- A bool is handed back. -/
def SomeBool (e : Ending) : Prop := ∃ b, e = .returned (.bool b)
theorem someBool (b : Bool) : SomeBool (.returned (.bool b)) := ⟨b, rfl⟩

set_option maxRecDepth 100000 in
set_option maxHeartbeats 1000000 in
theorem bytes11 (s : Option Addr) (n c : Nat) (P : Array Value) (q : Int) (w : World) (hn : n ≤ 9223372036854775807) :
    Calls Try.prog 11 #[.slice s n c, .agg P, .int .u64 q] w fun e w' => SomeBool e ∧ Below w.heap.size w w' := by
  have B1 : Below w.heap.size w (w.alloc (.cells P 22)) := (Below.refl _ _).alloc (Nat.le_refl _) _
  by_cases h0 : 1048576 < n
  · have hd : decide ((1048576 : Int) < (n : Int)) = true := by simp; omega
    go_enter Try.func11, Try.ntmps11
    go_wp2
    go_ret
    exact ⟨someBool false, B1⟩
  · have hd : decide ((1048576 : Int) < (n : Int)) = false := by simp; omega
    go_enter Try.func11, Try.ntmps11
    go_wp2
    generalize w.alloc (.cells P 22) = w1 at *
    go_loopg [7, 8] n (fun g z i wr => ∃ (k : Nat) (x : Int), k + g = n ∧ z = .int .i64 x ∧ 0 ≤ x ∧ x ≤ 1048576 ∧ i = .int .i64 k ∧ w1 = wr)
    case atStart => exact ⟨0, n, by omega, rfl, by omega, by omega, rfl, rfl⟩
    case round =>
      obtain ⟨k, x, hk, rfl, hx0, hx1, rfl, rfl⟩ := hrel
      have Hk : Hid (k + gk = n) := hk
      have hk' : k ≤ n := by omega
      clear hk
      by_cases hlt : k < n
      · have hd' : decide ((k : Int) < (n : Int)) = true := by simp; omega
        by_cases h1 : x + 16 ≤ 1048576
        · by_cases h2 : x + 16 + 16 ≤ 1048576
          · go_wp2
            go_roundg (gk - 1)
            case rel =>
              have := Hk.out
              exact ⟨k + 1, x + 16 + 16, by omega, by go_num, by omega, by omega, by go_num, rfl⟩
            case measure => have := Hk.out; omega
          · go_wp2
            go_ret
            exact ⟨someBool false, B1⟩
        · go_wp2
          go_ret
          exact ⟨someBool false, B1⟩
      · have hd' : decide ((k : Int) < (n : Int)) = false := by simp; omega
        go_wp2
        go_ret
        exact ⟨someBool true, B1⟩
end Go.Proofs.Qxb6602021a
