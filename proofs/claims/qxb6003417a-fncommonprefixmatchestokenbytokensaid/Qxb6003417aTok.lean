import Derived.Test.Qxb6003417aClone
import Derived.Deep.LoopGhost
import Derived.Deep.QuietTactic
import Derived.BigQuiet
namespace Go.Proofs.Qxb6003417a
open Go.ChangeShapes Go.WideShapes Go.ChangeAt Go.RowKit
set_option linter.unusedVariables false
set_option linter.unusedSimpArgs false

theorem and15 (b : Int) (h0 : 0 ≤ b) (h1 : b ≤ 255) : bits .and .u8 b 15 = b % 16 := by
  obtain ⟨m, rfl⟩ := Int.eq_ofNat_of_zero_le h0
  have hm : m < 256 := by omega
  have e1 : (BitVec.ofInt 8 (m : Int)).toNat = m := by
    rw [BitVec.ofInt_natCast, BitVec.toNat_ofNat]; omega
  have e2 : (BitVec.ofInt 8 (15 : Int)).toNat = 15 := by decide
  have e3 : m &&& 15 = m % 16 := Nat.and_two_pow_sub_one_eq_mod m 4
  have e4 : bits .and .u8 (m : Int) 15 = IntKind.u8.wrap ((BitVec.ofInt 8 (m : Int) &&& BitVec.ofInt 8 (15 : Int)).toNat : Int) := rfl
  rw [e4, BitVec.toNat_and, e1, e2, e3, IntKind.wrap_u8]
  omega

/-- The 4-bit token at place i, the bytes' i / 2-nd being b. -/
def tokB (b : Int) (i : Nat) : Int := if i % 2 = 0 then b / 16 else b % 16

theorem tok_any (x : Addr) (n c i : Nat) (b : Int) (w : World) (hn : i / 2 < n) (hm : n ≤ 1048576) (h0 : 0 ≤ b) (h1 : b ≤ 255)
    (hc : w.cell? (x.add (i / 2)) = some (.int .u8 b)) :
    Calls Try.prog 12 #[.slice (some x) n c, .int .i64 i] w fun e w' => e = .returned (.int .u8 (tokB b i)) ∧ w = w' := by
  by_cases hi : i % 2 = 0
  · have e : tokB b i = b / 16 := if_pos hi
    rw [e]; clear e
    go_enter Try.func12, Try.ntmps12
    go_wp2
    go_ret
    exact ⟨rfl, rfl⟩
  · have e : tokB b i = b % 16 := if_neg hi
    rw [e]; clear e
    have H := and15 b h0 h1
    have HH : Hid (bits .and .u8 b 15 = b % 16) := H
    clear H
    go_enter Try.func12, Try.ntmps12
    go_wp2
    go_ret
    exact ⟨by rw [← HH.out]; rfl, rfl⟩

theorem at_any (x : Addr) (n c p i : Nat) (b : Int) (w : World) (hn : i / 2 < n) (hm : n ≤ 1048576) (h0 : 0 ≤ b) (h1 : b ≤ 255)
    (hc : w.cell? (x.add (i / 2)) = some (.int .u8 b)) :
    Calls Try.prog 50 #[.agg #[.slice (some x) n c, .int .i64 p], .int .i64 i] w fun e w' => e = .returned (.int .u8 (tokB b i)) ∧ w' = w.alloc (.cells #[.slice (some x) n c, .int .i64 p] 70) := by
  have hx : (x.add (i / 2)).block < w.heap.size := World.block_lt_of_cell? _ _ hc
  have hc1 : ∀ o, (w.alloc o).cell? (x.add (i / 2)) = some (.int .u8 b) := fun o => by rw [World.cell?_alloc_lt _ _ _ hx]; exact hc
  clear hx
  by_cases hi : i % 2 = 0
  · have e : tokB b i = b / 16 := if_pos hi
    rw [e]; clear e
    go_enter Try.func50, Try.ntmps50
    go_wp2
    go_ret
    exact ⟨rfl, rfl⟩
  · have e : tokB b i = b % 16 := if_neg hi
    rw [e]; clear e
    have H := and15 b h0 h1
    have HH : Hid (bits .and .u8 b 15 = b % 16) := H
    clear H
    go_enter Try.func50, Try.ntmps50
    go_wp2
    go_ret
    exact ⟨by rw [← HH.out]; rfl, rfl⟩

end Go.Proofs.Qxb6003417a
