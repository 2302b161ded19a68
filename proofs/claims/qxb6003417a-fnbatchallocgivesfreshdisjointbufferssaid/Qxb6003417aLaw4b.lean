import Derived.Test.Qxb6003417aRnd
namespace Go.Proofs.Qxb6003417a
open Go.ChangeShapes Go.WideShapes Go.ChangeAt Go.RowKit
set_option linter.unusedVariables false
set_option linter.unusedSimpArgs false

set_option maxRecDepth 100000 in
set_option maxHeartbeats 1000000 in
theorem law4_big (a : Option Addr) (n c : Nat) (w : World) (hn : 4096 < n) (hm : n ≤ 9223372036854775807) :
    Calls Try.prog 4 #[.slice a n c] w fun e w' => e = .returned (.bool true) ∧ Below w.heap.size w w' := by
  by_cases h : 1048576 < n
  · go_enter Try.func4, Try.ntmps4
    go_wp2
    go_ret
    exact ⟨rfl, Below.refl _ _⟩
  · go_enter Try.func4, Try.ntmps4
    go_wp2
    go_ret
    exact ⟨rfl, Below.refl _ _⟩

set_option maxRecDepth 100000 in
set_option maxHeartbeats 1000000 in
theorem law4_nil (w : World) :
    Calls Try.prog 4 #[.slice none 0 0] w fun e w' => e = .returned (.bool true) ∧ Below w.heap.size w w' := by
  have hmk : ∀ w, (Instr.makeSlice 33 (.int .i64 0) (.int .i64 0)).run Try.prog w = .ok (.slice (some ⟨w.heap.size, 0, none⟩) 0 0) (w.alloc (.cells #[] 22)) := fun _ => by kernel_rfl
  go_enter Try.func4, Try.ntmps4
  go_wp2
  go_loopg [3, 4] 0 (fun g t i wr => w = wr ∧ i = .int .i64 0 ∧ t = .int .i64 0)
  case atStart => exact ⟨rfl, rfl, rfl⟩
  case round =>
    obtain ⟨rfl, rfl, rfl⟩ := hrel
    go_wp2_with (go_at_call 15; refine (cloneInts_nil 0 0 w).mono ?_; rintro e w' ⟨rfl, hw'⟩; have hw'' := hw'.symm; clear hw'; subst hw'')
    go_loopg [7] 0 (fun g i wr => i = .int .i64 0 ∧ Below w.heap.size w wr)
    case atStart => exact ⟨rfl, ((Below.refl _ _).alloc (Nat.le_refl _) _).alloc (by simp) _⟩
    case round =>
      obtain ⟨rfl, hb⟩ := hrel
      go_wp2
      go_loopg [11] 0 (fun g i wr => i = .int .i64 0 ∧ Below w.heap.size w wr)
      case atStart => exact ⟨rfl, hb⟩
      case round =>
        obtain ⟨rfl, hb'⟩ := hrel
        go_wp2
        go_ret
        exact ⟨rfl, hb'⟩
end Go.Proofs.Qxb6003417a
