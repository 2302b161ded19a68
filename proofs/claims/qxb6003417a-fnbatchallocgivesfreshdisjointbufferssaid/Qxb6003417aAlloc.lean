/- (*Batch).alloc and ZZAlloc: walked once; what they leave, said of cells. -/
import Derived.Test.Qxb6003417aBase
namespace Go.Proofs.Qxb6003417a
open Go.ChangeShapes Go.WideShapes Go.ChangeAt Go.RowKit

set_option maxHeartbeats 400000 in
theorem alloc_big (p : Value) (n : Nat) (w : World) (h1 : 8192 < n) (h2 : n ≤ 65536) :
    Calls Try.prog 41 #[p, .int .i64 n] w fun e w' => e = .returned (.slice (some ⟨w.heap.size, 0, none⟩) n n) ∧ w' = w.alloc (.cells (madeCells #[.int .u8 0] n) 5) := by
  have hb : 1 * n ≤ 281474976710656 := by omega
  have hb2 : n ≤ 9223372036854775807 := by omega
  go_enter Try.func41, Try.ntmps41
  go_wp2_with (at_make; refine wpList_make_at _ rfl _ _ 22 rfl 5 _ _ _ Try.underlying22 Try.info5 _ _ _ _ n rfl rfl rfl rfl hb hb2 ?_)
  go_ret
  exact ⟨rfl, by simp⟩

set_option maxHeartbeats 400000 in
theorem alloc_cut (Bb n lf : Nat) (af : Option Addr) (w : World) (h1 : n ≤ 8192) (h2 : n ≤ lf)
    (c1 : w.cell? ⟨Bb, 2, none⟩ = some (.slice af lf lf)) (f1 : w.frozen? ⟨Bb, 2, none⟩ = false) :
    Calls Try.prog 41 #[.pointer (some ⟨Bb, 0, none⟩), .int .i64 n] w fun e w' => e = .returned (.slice af n n) ∧ w' = w.setCell ⟨Bb, 2, none⟩ (.slice (if lf = n then af else af.map (·.add n)) (lf - n) (lf - n)) := by
  go_enter Try.func41, Try.ntmps41
  go_wp2
  all_goals (go_ret; exact ⟨rfl, rfl⟩)

set_option maxHeartbeats 1000000 in
theorem alloc_new (sz Bb n lb cb lf : Nat) (ab af : Option Addr) (w : World) (h1 : n ≤ 8192) (h2 : lf < n) (hlb : lb ≤ 65536)
    (hB : Bb < w.heap.size) (hsz : n ≤ sz) (hsz2 : sz ≤ 65536)
    (hm : (2 * lb < 256 ∧ n ≤ 256 ∧ Hid (sz = 256)) ∨ (2 * lb < 256 ∧ 256 < n ∧ Hid (sz = n)) ∨ (256 ≤ 2 * lb ∧ n ≤ 2 * lb ∧ 2 * lb ≤ 65536 ∧ Hid (sz = 2 * lb)) ∨ (256 ≤ 2 * lb ∧ 2 * lb < n ∧ Hid (sz = n)) ∨ (65536 < 2 * lb ∧ Hid (sz = 65536)))
    (c0 : w.cell? ⟨Bb, 1, none⟩ = some (.slice ab lb cb)) (c1 : w.cell? ⟨Bb, 2, none⟩ = some (.slice af lf lf)) (f0 : w.frozen? ⟨Bb, 1, none⟩ = false) (f1 : w.frozen? ⟨Bb, 2, none⟩ = false) :
    Calls Try.prog 41 #[.pointer (some ⟨Bb, 0, none⟩), .int .i64 n] w fun e w' => e = .returned (.slice (some ⟨w.heap.size, 0, none⟩) n n) ∧
      w' = (((w.alloc (.cells (madeCells #[.int .u8 0] sz) 5)).setCell ⟨Bb, 1, none⟩ (.slice (some ⟨w.heap.size, 0, none⟩) sz sz)).setCell ⟨Bb, 2, none⟩ (.slice (some ⟨w.heap.size, 0, none⟩) sz sz)).setCell ⟨Bb, 2, none⟩ 
         (.slice (if sz = n then some ⟨w.heap.size, 0, none⟩ else some ⟨w.heap.size, n, none⟩) (sz - n) (sz - n)) := by
  have hb : 1 * sz ≤ 281474976710656 := by omega
  have hb2 : sz ≤ 9223372036854775807 := by omega
  rcases hm with ⟨a1, a2, a3⟩ | ⟨a1, a2, a3⟩ | ⟨a1, a2, a3, a4⟩ | ⟨a1, a2, a3⟩ | ⟨a1, a2⟩
  · go_enter Try.func41, Try.ntmps41
    go_wp2_with (at_make; refine wpList_make_at _ rfl _ _ 22 rfl 5 _ _ _ Try.underlying22 Try.info5 _ _ _ _ sz rfl rfl ?hL0 ?hC0 hb hb2 ?_)
    case hL0 => have := a3.out; omega
    case hC0 => have := a3.out; omega
    all_goals (go_ret; exact ⟨rfl, rfl⟩)
  · go_enter Try.func41, Try.ntmps41
    go_wp2_with (at_make; refine wpList_make_at _ rfl _ _ 22 rfl 5 _ _ _ Try.underlying22 Try.info5 _ _ _ _ sz rfl rfl ?hL1 ?hC1 hb hb2 ?_)
    case hL1 => have := a3.out; omega
    case hC1 => have := a3.out; omega
    all_goals (go_ret; exact ⟨rfl, rfl⟩)
  · go_enter Try.func41, Try.ntmps41
    go_wp2_with (at_make; refine wpList_make_at _ rfl _ _ 22 rfl 5 _ _ _ Try.underlying22 Try.info5 _ _ _ _ sz rfl rfl ?hL2 ?hC2 hb hb2 ?_)
    case hL2 => have := a4.out; omega
    case hC2 => have := a4.out; omega
    all_goals (go_ret; exact ⟨rfl, rfl⟩)
  · go_enter Try.func41, Try.ntmps41
    go_wp2_with (at_make; refine wpList_make_at _ rfl _ _ 22 rfl 5 _ _ _ Try.underlying22 Try.info5 _ _ _ _ sz rfl rfl ?hL3 ?hC3 hb hb2 ?_)
    case hL3 => have := a3.out; omega
    case hC3 => have := a3.out; omega
    all_goals (go_ret; exact ⟨rfl, rfl⟩)
  · go_enter Try.func41, Try.ntmps41
    go_wp2_with (at_make; refine wpList_make_at _ rfl _ _ 22 rfl 5 _ _ _ Try.underlying22 Try.info5 _ _ _ _ sz rfl rfl ?hL4 ?hC4 hb hb2 ?_)
    case hL4 => have := a2.out; omega
    case hC4 => have := a2.out; omega
    all_goals (go_ret; exact ⟨rfl, rfl⟩)

end Go.Proofs.Qxb6003417a
