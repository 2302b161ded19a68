import Derived.Test.Qxb6604453aZz
namespace Go.Proofs.Qxb6604453a
open Go.ChangeShapes Go.WideShapes Go.ChangeAt Go.RowKit
set_option linter.unusedVariables false
set_option linter.unusedSimpArgs false

set_option maxRecDepth 100000 in
set_option maxHeartbeats 4000000 in
theorem law3_ll (a0 : Bool) (a1 : ByteArray) (a2 : Int) (a4 : Bool) (a5 : ByteArray) (a6 : Bool) (a7 : ByteArray) (a8 : Int) (a10 : Bool) (a11 : ByteArray) (w : World) (h1 : a1.size ≤ 262144) (h5 : a5.size ≤ 262144) (h7 : a7.size ≤ 262144) (h11 : a11.size ≤ 262144) (e5 : a5.toList.isEmpty = false) (e11 : a11.toList.isEmpty = false) :
    Calls Try.prog 3 #[.bool a0, .string a1, .int .i64 a2, .bool true, .bool a4, .string a5, .bool a6, .string a7, .int .i64 a8, .bool true, .bool a10, .string a11] w fun e w' => e = .returned (.bool true) ∧ Below w.heap.size w w' := by
  obtain ⟨nP, hP⟩ : ∃ n, a1.size = n := ⟨_, rfl⟩
  obtain ⟨nS, hS⟩ : ∃ n, a5.size = n := ⟨_, rfl⟩
  obtain ⟨nE, hE⟩ : ∃ n, a7.size = n := ⟨_, rfl⟩
  obtain ⟨nL, hL⟩ : ∃ n, a11.size = n := ⟨_, rfl⟩
  rw [hP] at h1
  rw [hS] at h5
  rw [hE] at h7
  rw [hL] at h11
  go_enter Try.func3, Try.ntmps3
  go_wp2_with (first | (go_at_call 6; go_in))
  refine (newDec_long a0 a4 a1 a5 a2 _).mono ?_
  rintro e W1 ⟨g1, rfl, hb1, hs1, B1⟩
  have hg1 : g1 < W1.heap.size := World.block_lt_of_cell? _ _ hb1
  go_wp2_with (fail)
  refine (newDec_long a6 a10 a7 a11 a8 _).mono ?_
  rintro e W2 ⟨g2, rfl, hb2, hs2, B2⟩
  have hg2 : g2 < W2.heap.size := World.block_lt_of_cell? _ _ hb2
  have s1 := B1.size
  have s2 := B2.size
  simp at s2
  have C1 : W2.cell? ⟨W1.heap.size, 0, none⟩ = some (.bool a0) := by rw [B2.cell (by simp)]; simp [go_sem]
  have C2 : W2.cell? ⟨W1.heap.size, 1, none⟩ = some (.string a1) := by rw [B2.cell (by simp)]; simp [go_sem]
  have C3 : W2.cell? ⟨W1.heap.size, 2, none⟩ = some (.int .i64 a2) := by rw [B2.cell (by simp)]; simp [go_sem]
  have C4 : W2.cell? ⟨W1.heap.size, 3, none⟩ = some (.pointer (some ⟨g1, 0, none⟩)) := by rw [B2.cell (by simp)]; simp [go_sem]
  have hw2 : W1.heap.size < W2.heap.size := by omega
  have hb1' : W2.cell? ⟨g1, 0, none⟩ = some (.bool a4) := by rw [B2.cell (by simp; omega), World.cell?_alloc_past _ _ _ hg1]; exact hb1
  have hs1' : W2.cell? ⟨g1, 1, none⟩ = some (.string a5) := by rw [B2.cell (by simp; omega), World.cell?_alloc_past _ _ _ hg1]; exact hs1
  clear hb1 hs1
  have B2' : Below w.heap.size w W2 := (B1.alloc s1 _).trans (B2.mono (by simp; omega))
  have hd : ¬ W1.heap.size = W2.heap.size := by omega
  clear B1 B2
  go_wp2_with (fail)
  refine (zzkey_long a0 a4 a1 a5 a2 g1 _ (by rw [World.cell?_alloc_past _ _ _ (Nat.lt_trans hg1 hw2)]; exact hb1') (by rw [World.cell?_alloc_past _ _ _ (Nat.lt_trans hg1 hw2)]; exact hs1')).mono ?_
  rintro e W3 ⟨rfl, B3⟩
  have s3 := B3.size
  simp at s3
  have D1 : W3.cell? ⟨W2.heap.size, 0, none⟩ = some (.bool a6) := by rw [B3.cell (by simp)]; simp [go_sem]
  have D2 : W3.cell? ⟨W2.heap.size, 1, none⟩ = some (.string a7) := by rw [B3.cell (by simp)]; simp [go_sem]
  have D3 : W3.cell? ⟨W2.heap.size, 2, none⟩ = some (.int .i64 a8) := by rw [B3.cell (by simp)]; simp [go_sem]
  have D4 : W3.cell? ⟨W2.heap.size, 3, none⟩ = some (.pointer (some ⟨g2, 0, none⟩)) := by rw [B3.cell (by simp)]; simp [go_sem]
  have hb2' : W3.cell? ⟨g2, 0, none⟩ = some (.bool a10) := by rw [B3.cell (by simp; omega), World.cell?_alloc_past _ _ _ hg2]; exact hb2
  have hs2' : W3.cell? ⟨g2, 1, none⟩ = some (.string a11) := by rw [B3.cell (by simp; omega), World.cell?_alloc_past _ _ _ hg2]; exact hs2
  clear hb2 hs2
  have B3' : Below w.heap.size w W3 := (B2'.alloc (by omega) _).trans (B3.mono (by simp; omega))
  clear B3 B2'
  go_wp2_with (fail)
  refine (zzkey_long a6 a10 a7 a11 a8 g2 _ hb2' hs2').mono ?_
  rintro e W4 ⟨rfl, B4⟩
  have B4' : Below w.heap.size w W4 := B3'.trans (B4.mono (by omega))
  clear B4 B3'
  go_wp2_with (fail)
  all_goals (go_ret; exact ⟨by first | rfl | simp_all, B4'⟩)
end Go.Proofs.Qxb6604453a
