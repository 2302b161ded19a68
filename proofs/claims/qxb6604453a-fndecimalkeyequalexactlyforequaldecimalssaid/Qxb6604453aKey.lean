import Derived.Test.Qxb6604453aRows
import Derived.WalkKit
import Derived.ProofKit
import Derived.WalkSpells
import Derived.WalkLawsBesides
namespace Go.Proofs.Qxb6604453a
open Go.ChangeShapes Go.WideShapes Go.ChangeAt Go.RowKit
set_option linter.unusedVariables false
set_option linter.unusedSimpArgs false

set_option maxRecDepth 100000 in
set_option maxHeartbeats 1000000 in
theorem newDec_short (n ln : Bool) (d ld : ByteArray) (p : Int) (w : World) :
    Calls Try.prog 7 #[.bool n, .string d, .int .i64 p, .bool false, .bool ln, .string ld] w fun e w' => e = .returned (.agg #[.bool n, .string d, .int .i64 p, .pointer none]) ∧ Below w.heap.size w w' := by
  go_enter Try.func7, Try.ntmps7
  go_wp2
  refine bodyPost_ret (v := .agg #[.bool n, .string d, .int .i64 p, .pointer none]) (by simp [results, Try.results7, go_sem]) rfl ⟨rfl, ?_⟩
  exact ((Below.refl _ _).alloc (Nat.le_refl _) _).alloc (by simp) _
set_option maxRecDepth 100000 in
set_option maxHeartbeats 1000000 in
theorem newDec_long (n ln : Bool) (d ld : ByteArray) (p : Int) (w : World) :
    Calls Try.prog 7 #[.bool n, .string d, .int .i64 p, .bool true, .bool ln, .string ld] w fun e w' => ∃ g, e = .returned (.agg #[.bool n, .string d, .int .i64 p, .pointer (some ⟨g, 0, none⟩)]) ∧ w'.cell? ⟨g, 0, none⟩ = some (.bool ln) ∧ w'.cell? ⟨g, 1, none⟩ = some (.string ld) ∧ Below w.heap.size w w' := by
  go_enter Try.func7, Try.ntmps7
  go_wp2
  refine bodyPost_ret (v := .agg #[.bool n, .string d, .int .i64 p, .pointer (some ⟨w.heap.size + 1 + 1, 0, none⟩)]) (by simp [results, Try.results7, go_sem]) rfl ⟨w.heap.size + 1 + 1, rfl, ?_, ?_, ?_⟩
  · simp [go_sem]
  · simp [go_sem]
  · exact (((Below.refl _ _).alloc (Nat.le_refl _) _).alloc (by simp) _).alloc (by simp; omega) _

set_option maxRecDepth 100000 in
set_option maxHeartbeats 1000000 in
theorem key_short (n : Bool) (d : ByteArray) (p : Int) (w : World) :
    Calls Try.prog 18 #[.agg #[.bool n, .string d, .int .i64 p, .pointer none]] w fun e w' => e = .returned (.agg #[.string d, .int .i64 p, .string ⟨#[]⟩, .bool n, .bool false]) ∧ Below w.heap.size w w' := by
  go_enter Try.func18, Try.ntmps18
  go_wp2
  refine bodyPost_ret (v := .agg #[.string d, .int .i64 p, .string ⟨#[]⟩, .bool n, .bool false]) (by simp [results, Try.results18, go_sem]) rfl ⟨rfl, ?_⟩
  exact (((Below.refl _ _).alloc (Nat.le_refl _) _).alloc (by simp) _).alloc (by simp; omega) _

set_option maxRecDepth 100000 in
set_option maxHeartbeats 1000000 in
theorem key_long (n ln : Bool) (d ld : ByteArray) (p : Int) (g : Nat) (w : World) (h0 : w.cell? ⟨g, 0, none⟩ = some (.bool ln)) (h1 : w.cell? ⟨g, 1, none⟩ = some (.string ld)) :
    Calls Try.prog 18 #[.agg #[.bool n, .string d, .int .i64 p, .pointer (some ⟨g, 0, none⟩)]] w fun e w' => e = .returned (.agg #[.string d, .int .i64 p, .string ld, .bool n, .bool ln]) ∧ Below w.heap.size w w' := by
  have hg : g < w.heap.size := World.block_lt_of_cell? _ _ h0
  go_enter Try.func18, Try.ntmps18
  go_wp2
  obtain ⟨W, hW⟩ : ∃ W, W = ((w.alloc (.cells #[.bool n, .string d, .int .i64 p, .pointer (some ⟨g, 0, none⟩)] 25)).alloc (.cells #[.string ⟨#[]⟩, .int .i64 0, .string ⟨#[]⟩, .bool false, .bool false] 43)).alloc (.cells #[.string d, .int .i64 p, .string ⟨#[]⟩, .bool n, .bool false] 43) := ⟨_, rfl⟩
  rw [← hW]
  have q0 : W.cell? ⟨g, 0, none⟩ = some (.bool ln) := by
    rw [hW, World.cell?_alloc_past _ _ _ (by simp; omega), World.cell?_alloc_past _ _ _ (by simp; omega), World.cell?_alloc_past _ _ _ hg]; exact h0
  have q1 : W.cell? ⟨g, 1, none⟩ = some (.string ld) := by
    rw [hW, World.cell?_alloc_past _ _ _ (by simp; omega), World.cell?_alloc_past _ _ _ (by simp; omega), World.cell?_alloc_past _ _ _ hg]; exact h1
  have q2 : W.cell? ⟨w.heap.size, 3, none⟩ = some (.pointer (some ⟨g, 0, none⟩)) := by
    rw [hW, World.cell?_alloc_past _ _ _ (by simp; omega), World.cell?_alloc_past _ _ _ (by simp), World.cell?_alloc_at _ _ _ _ rfl]; rfl
  have k0 : W.cell? ⟨w.heap.size + 1 + 1, 0, none⟩ = some (.string d) := by rw [hW, World.cell?_alloc_at _ _ _ _ (by simp)]; rfl
  have k1 : W.cell? ⟨w.heap.size + 1 + 1, 1, none⟩ = some (.int .i64 p) := by rw [hW, World.cell?_alloc_at _ _ _ _ (by simp)]; rfl
  have k2 : W.cell? ⟨w.heap.size + 1 + 1, 2, none⟩ = some (.string ⟨#[]⟩) := by rw [hW, World.cell?_alloc_at _ _ _ _ (by simp)]; rfl
  have k3 : W.cell? ⟨w.heap.size + 1 + 1, 3, none⟩ = some (.bool n) := by rw [hW, World.cell?_alloc_at _ _ _ _ (by simp)]; rfl
  have k4 : W.cell? ⟨w.heap.size + 1 + 1, 4, none⟩ = some (.bool false) := by rw [hW, World.cell?_alloc_at _ _ _ _ (by simp)]; rfl
  have j0 : W.cell? ⟨w.heap.size + 1, 0, none⟩ = some (.string ⟨#[]⟩) := by rw [hW, World.cell?_alloc_past _ _ _ (by simp), World.cell?_alloc_at _ _ _ _ (by simp)]; rfl
  have j1 : W.cell? ⟨w.heap.size + 1, 1, none⟩ = some (.int .i64 0) := by rw [hW, World.cell?_alloc_past _ _ _ (by simp), World.cell?_alloc_at _ _ _ _ (by simp)]; rfl
  have j2 : W.cell? ⟨w.heap.size + 1, 2, none⟩ = some (.string ⟨#[]⟩) := by rw [hW, World.cell?_alloc_past _ _ _ (by simp), World.cell?_alloc_at _ _ _ _ (by simp)]; rfl
  have j3 : W.cell? ⟨w.heap.size + 1, 3, none⟩ = some (.bool false) := by rw [hW, World.cell?_alloc_past _ _ _ (by simp), World.cell?_alloc_at _ _ _ _ (by simp)]; rfl
  have j4 : W.cell? ⟨w.heap.size + 1, 4, none⟩ = some (.bool false) := by rw [hW, World.cell?_alloc_past _ _ _ (by simp), World.cell?_alloc_at _ _ _ _ (by simp)]; rfl
  have f : ∀ i, W.frozen? ⟨w.heap.size + 1 + 1, i, none⟩ = false := fun i => by rw [hW]; exact World.frozen?_alloc_at _ _ _ _ (by simp)
  have f' : ∀ i, W.frozen? ⟨w.heap.size + 1, i, none⟩ = false := fun i => by rw [hW, World.frozen?_alloc_past _ _ _ (by simp)]; exact World.frozen?_alloc_at _ _ _ _ (by simp)
  have BW : Below w.heap.size w W := by rw [hW]; exact (((Below.refl _ _).alloc (Nat.le_refl _) _).alloc (by simp) _).alloc (by simp; omega) _
  have hn1 : ¬ g = w.heap.size + 1 + 1 := by omega
  have hn2 : ¬ g = w.heap.size + 1 := by omega
  clear hW
  go_region
  go_wp2
  refine bodyPost_ret (v := .agg #[.string d, .int .i64 p, .string ld, .bool n, .bool ln]) (by simp [results, Try.results18, go_sem, q0, q1, q2, k0, k1, k2, k3, k4, j0, j1, j2, j3, j4, Result.andThen]) rfl ⟨rfl, ?_⟩
  exact (((((((BW.setCell (by simp; omega) _).setCell (by simp; omega) _).setCell (by simp) _).setCell (by simp) _).setCell (by simp) _).setCell (by simp) _).setCell (by simp) _).drew
end Go.Proofs.Qxb6604453a
