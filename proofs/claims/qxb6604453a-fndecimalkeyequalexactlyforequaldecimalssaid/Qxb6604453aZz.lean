import Derived.Test.Qxb6604453aKey
import Derived.BigQuiet
namespace Go.Proofs.Qxb6604453a
open Go.ChangeShapes Go.WideShapes Go.ChangeAt Go.RowKit
set_option linter.unusedVariables false
set_option linter.unusedSimpArgs false

theorem belowDrew {B : Nat} {a w : World} (h : Below B a w) (n : Nat) : Below B a (w.drewN n) := ⟨h.os, h.tape, h.output, h.size, h.block⟩

theorem toList_inj' {a b : ByteArray} (h : a.toList = b.toList) : a = b := by
  rw [ByteArray.toList_eq, ByteArray.toList_eq] at h
  cases a; cases b; simp_all
theorem isEmpty_false {a : ByteArray} (h : ¬ a = ⟨#[]⟩) : a.toList.isEmpty = false := by
  rw [ByteArray.toList_eq]
  obtain ⟨⟨l⟩⟩ := a
  cases l with
  | nil => exact absurd rfl h
  | cons _ _ => rfl

set_option maxRecDepth 100000 in
set_option maxHeartbeats 1000000 in
theorem zzkey_short (n : Bool) (d : ByteArray) (p : Int) (w : World) :
    Calls Try.prog 8 #[.agg #[.bool n, .string d, .int .i64 p, .pointer none]] w fun e w' => e = .returned (.tuple #[.string d, .int .i64 p, .string ⟨#[]⟩, .bool n, .bool false]) ∧ Below w.heap.size w w' := by
  go_enter Try.func8, Try.ntmps8
  go_wp2_with fail
  refine (key_short n d p _).mono ?_
  rintro e W ⟨rfl, BW⟩
  have hs := BW.size
  simp at hs BW
  have BW' : Below w.heap.size w W := ((Below.refl _ _).alloc (Nat.le_refl _) _).trans (BW.mono (by omega))
  clear BW
  go_wp2
  go_quiet (fail)
  go_wp2
  refine bodyPost_ret (v := .tuple #[.string d, .int .i64 p, .string ⟨#[]⟩, .bool n, .bool false]) (by simp [results, Try.results8, go_sem, Result.andThen]) rfl ⟨rfl, ?_⟩
  exact belowDrew (BW'.alloc (by omega) _) _
set_option maxRecDepth 100000 in
set_option maxHeartbeats 1000000 in
theorem zzkey_long (n ln : Bool) (d ld : ByteArray) (p : Int) (g : Nat) (w : World) (h0 : w.cell? ⟨g, 0, none⟩ = some (.bool ln)) (h1 : w.cell? ⟨g, 1, none⟩ = some (.string ld)) :
    Calls Try.prog 8 #[.agg #[.bool n, .string d, .int .i64 p, .pointer (some ⟨g, 0, none⟩)]] w fun e w' => e = .returned (.tuple #[.string d, .int .i64 p, .string ld, .bool n, .bool ln]) ∧ Below w.heap.size w w' := by
  have hg : g < w.heap.size := World.block_lt_of_cell? _ _ h0
  go_enter Try.func8, Try.ntmps8
  go_wp2_with fail
  refine (key_long n ln d ld p g _ (by rw [World.cell?_alloc_past _ _ _ hg]; exact h0) (by rw [World.cell?_alloc_past _ _ _ hg]; exact h1)).mono ?_
  rintro e W ⟨rfl, BW⟩
  have hs := BW.size
  simp at hs BW
  have BW' : Below w.heap.size w W := ((Below.refl _ _).alloc (Nat.le_refl _) _).trans (BW.mono (by omega))
  clear BW
  go_wp2
  go_quiet (fail)
  go_wp2
  refine bodyPost_ret (v := .tuple #[.string d, .int .i64 p, .string ld, .bool n, .bool ln]) (by simp [results, Try.results8, go_sem, Result.andThen]) rfl ⟨rfl, ?_⟩
  exact belowDrew (BW'.alloc (by omega) _) _

set_option maxRecDepth 100000 in
set_option maxHeartbeats 4000000 in
theorem law3_big (a0 : Bool) (a1 : ByteArray) (a2 : Int) (a3 : Bool) (a4 : Bool) (a5 : ByteArray) (a6 : Bool) (a7 : ByteArray) (a8 : Int) (a9 : Bool) (a10 : Bool) (a11 : ByteArray) (w1 : a1.size ≤ maxLen) (w5 : a5.size ≤ maxLen) (w7 : a7.size ≤ maxLen) (w11 : a11.size ≤ maxLen) (w : World) (hs : 1048576 < a1.size + a5.size + a7.size + a11.size) :
    Calls Try.prog 3 #[.bool a0, .string a1, .int .i64 a2, .bool a3, .bool a4, .string a5, .bool a6, .string a7, .int .i64 a8, .bool a9, .bool a10, .string a11] w fun e w' => e = .returned (.bool true) ∧ Below w.heap.size w w' := by
  simp only [maxLen] at w1 w5 w7 w11
  obtain ⟨nP, hP⟩ : ∃ n, n = a1.size := ⟨_, rfl⟩
  obtain ⟨nS, hS⟩ : ∃ n, n = a5.size := ⟨_, rfl⟩
  obtain ⟨nE, hE⟩ : ∃ n, n = a7.size := ⟨_, rfl⟩
  obtain ⟨nL, hL⟩ : ∃ n, n = a11.size := ⟨_, rfl⟩
  rw [← hP, ← hS, ← hE, ← hL] at hs
  rw [← hP] at w1
  rw [← hS] at w5
  rw [← hE] at w7
  rw [← hL] at w11
  replace hP := hP.symm
  replace hS := hS.symm
  replace hE := hE.symm
  replace hL := hL.symm
  rcases (show 1048576 < nP ∨ (nP ≤ 1048576 ∧ 1048576 < nS) ∨ (nP ≤ 1048576 ∧ nS ≤ 1048576 ∧ 1048576 < nP + nS) ∨ (nP + nS ≤ 1048576 ∧ 1048576 < nE) ∨ (nP + nS ≤ 1048576 ∧ nE ≤ 1048576 ∧ 1048576 < nP + nS + nE) ∨ (nP + nS + nE ≤ 1048576 ∧ 1048576 < nL) ∨ (nP + nS + nE ≤ 1048576 ∧ nL ≤ 1048576 ∧ 1048576 < nP + nS + nE + nL) by omega) with a | ⟨a, b⟩ | ⟨a, b, c⟩ | ⟨a, b⟩ | ⟨a, b, c⟩ | ⟨a, b⟩ | ⟨a, b, c⟩
  all_goals
    go_enter Try.func3, Try.ntmps3
    go_wp2_with (first | (go_at_call 6; go_in))
    go_ret
    exact ⟨rfl, Below.refl _ _⟩

set_option maxRecDepth 100000 in
set_option maxHeartbeats 4000000 in
theorem law3_long (a0 : Bool) (a1 : ByteArray) (a2 : Int) (a3 : Bool) (a4 : Bool) (a5 : ByteArray) (a6 : Bool) (a7 : ByteArray) (a8 : Int) (a9 : Bool) (a10 : Bool) (a11 : ByteArray) (w : World) (hs : a1.size + a5.size + a7.size + a11.size ≤ 1048576) (hl : 262144 < a1.size ∨ 262144 < a5.size ∨ 262144 < a7.size ∨ 262144 < a11.size) :
    Calls Try.prog 3 #[.bool a0, .string a1, .int .i64 a2, .bool a3, .bool a4, .string a5, .bool a6, .string a7, .int .i64 a8, .bool a9, .bool a10, .string a11] w fun e w' => e = .returned (.bool true) ∧ Below w.heap.size w w' := by
  obtain ⟨nP, hP⟩ : ∃ n, a1.size = n := ⟨_, rfl⟩
  obtain ⟨nS, hS⟩ : ∃ n, a5.size = n := ⟨_, rfl⟩
  obtain ⟨nE, hE⟩ : ∃ n, a7.size = n := ⟨_, rfl⟩
  obtain ⟨nL, hL⟩ : ∃ n, a11.size = n := ⟨_, rfl⟩
  rw [hP, hS, hE, hL] at hs hl
  rcases (show 262144 < nP ∨ (nP ≤ 262144 ∧ 262144 < nS) ∨ (nP ≤ 262144 ∧ nS ≤ 262144 ∧ 262144 < nE) ∨ (nP ≤ 262144 ∧ nS ≤ 262144 ∧ nE ≤ 262144 ∧ 262144 < nL) by omega) with a | ⟨a, b⟩ | ⟨a, b, c⟩ | ⟨a, b, c, d⟩
  all_goals
    clear hl
    go_enter Try.func3, Try.ntmps3
    go_wp2_with (first | (go_at_call 6; go_in))
    go_ret
    exact ⟨rfl, Below.refl _ _⟩

set_option maxRecDepth 100000 in
set_option maxHeartbeats 4000000 in
theorem law3_empty (a0 : Bool) (a1 : ByteArray) (a2 : Int) (a3 : Bool) (a4 : Bool) (a5 : ByteArray) (a6 : Bool) (a7 : ByteArray) (a8 : Int) (a9 : Bool) (a10 : Bool) (a11 : ByteArray) (w : World) (h1 : a1.size ≤ 262144) (h5 : a5.size ≤ 262144) (h7 : a7.size ≤ 262144) (h11 : a11.size ≤ 262144) (he : (a3 = true ∧ a5 = ⟨#[]⟩) ∨ (a9 = true ∧ a11 = ⟨#[]⟩)) :
    Calls Try.prog 3 #[.bool a0, .string a1, .int .i64 a2, .bool a3, .bool a4, .string a5, .bool a6, .string a7, .int .i64 a8, .bool a9, .bool a10, .string a11] w fun e w' => e = .returned (.bool true) ∧ Below w.heap.size w w' := by
  obtain ⟨nP, hP⟩ : ∃ n, a1.size = n := ⟨_, rfl⟩
  obtain ⟨nS, hS⟩ : ∃ n, a5.size = n := ⟨_, rfl⟩
  obtain ⟨nE, hE⟩ : ∃ n, a7.size = n := ⟨_, rfl⟩
  obtain ⟨nL, hL⟩ : ∃ n, a11.size = n := ⟨_, rfl⟩
  rw [hP] at h1
  rw [hS] at h5
  rw [hE] at h7
  rw [hL] at h11
  by_cases he1 : a3 = true ∧ a5 = ⟨#[]⟩
  · obtain ⟨rfl, rfl⟩ := he1
    clear he
    go_enter Try.func3, Try.ntmps3
    go_wp2_with (first | (go_at_call 6; go_in))
    go_ret
    exact ⟨rfl, Below.refl _ _⟩
  · have he2 : a9 = true ∧ a11 = ⟨#[]⟩ := by rcases he with h | h; exact absurd h he1; exact h
    obtain ⟨rfl, rfl⟩ := he2
    clear he
    cases a3 with
    | false =>
      go_enter Try.func3, Try.ntmps3
      go_wp2_with (first | (go_at_call 6; go_in))
      go_ret
      exact ⟨rfl, Below.refl _ _⟩
    | true =>
      have hne : a5.toList.isEmpty = false := isEmpty_false (by simpa using he1)
      clear he1
      go_enter Try.func3, Try.ntmps3
      go_wp2_with (first | (go_at_call 6; go_in))
      go_ret
      exact ⟨rfl, Below.refl _ _⟩
end Go.Proofs.Qxb6604453a
