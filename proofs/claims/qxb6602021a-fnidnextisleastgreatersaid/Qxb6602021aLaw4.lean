import Derived.Test.Qxb6602021aVal
namespace Go.Proofs.Qxb6602021a
open Go.ChangeShapes Go.WideShapes Go.ChangeAt Go.RowKit
set_option linter.unusedVariables false
set_option linter.unusedSimpArgs false

theorem ret_true {b : Bool} (h : b = true) : Ending.returned (.bool b) = .returned (.bool true) := by rw [h]

set_option maxRecDepth 100000 in
set_option maxHeartbeats 2000000 in
theorem law4_walk (A O : List Int) (X Y : Array Value) (w : World) (hX : Hid (X = (bcells A).toArray)) (hY : Hid (Y = (bcells O).toArray)) (ha : IsBytes 16 A) (ho : IsBytes 16 O) :
    Calls Try.prog 4 #[.agg X, .agg Y] w fun e w' => e = .returned (.bool true) ∧ Below w.heap.size w w' := by
  have Hx : Hid (X.size = 16) := by show _ = _; rw [hX.out, List.size_toArray, bcells_length]; exact ha.1
  have Hy : Hid (Y.size = 16) := by show _ = _; rw [hY.out, List.size_toArray, bcells_length]; exact ho.1
  have h0 : Hid (((w.alloc (.cells X 22)).alloc (.cells Y 22)).heap[w.heap.size]? = some (.cells X 22 (0, 0))) := heap_alloc2_old w _ _
  go_enter Try.func4, Try.ntmps4
  go_wp2_with (refine wpList_row_load rfl 22 (.tmp 2) rfl w.heap.size rfl 22 X _ h0 Try.underlying22 rfl (Try.row22 _ Hx.out) ?_)
  refine (zznext_any A X _ hX ha).mono ?_
  rintro e w1 ⟨R, b, rfl, N, hb⟩
  have hR : Hid ((bcells R).toArray.size = 16) := by show _ = _; rw [List.size_toArray, bcells_length]; exact N.length
  have hall : Hid ((bcells R).toArray.all (·.oneCell') = true) := bcells_all R
  have k0 : w1.heap[w.heap.size]? = some (.cells X 22 (0, 0)) := by rw [hb.block _ (by simp; omega)]; exact heap_alloc2_old w _ _
  have k1 : w1.heap[w.heap.size + 1]? = some (.cells Y 22 (0, 0)) := by rw [hb.block _ (by simp)]; exact heap_alloc2_new w _ _
  have hbel : Below w.heap.size w w1 := (((Below.refl _ _).alloc (Nat.le_refl _) _).alloc (by simp) _).trans (hb.mono (by simp; omega))
  have hz : w.heap.size + 2 ≤ w1.heap.size := by have := hb.size; simp at this; omega
  clear h0 hb
  have K0 : Hid (w1.heap[w.heap.size]? = some (.cells X 22 (0, 0))) := k0
  have K1 : Hid (w1.heap[w.heap.size + 1]? = some (.cells Y 22 (0, 0))) := k1
  clear k0 k1
  have r1 : Hid ((w1.alloc (.cells (bcells R).toArray 23)).heap[w1.heap.size]? = some (.cells (bcells R).toArray 23 (0, 0))) := heap_alloc_new w1 _
  have g0 : Hid (((w1.alloc (.cells (bcells R).toArray 23)).alloc (.cells (bcells R).toArray 22)).heap[w.heap.size]? = some (.cells X 22 (0, 0))) := by
    show _ = _
    rw [heap_alloc_old _ _ (h := by simp; omega), heap_alloc_old _ _ (h := by omega)]; exact K0.out
  have g1 : Hid (((w1.alloc (.cells (bcells R).toArray 23)).alloc (.cells (bcells R).toArray 22)).heap[w.heap.size + 1]? = some (.cells Y 22 (0, 0))) := by
    show _ = _
    rw [heap_alloc_old _ _ (h := by simp; omega), heap_alloc_old _ _ (h := by omega)]; exact K1.out
  have g2 : Hid (((w1.alloc (.cells (bcells R).toArray 23)).alloc (.cells (bcells R).toArray 22)).heap[w1.heap.size + 1]? = some (.cells (bcells R).toArray 22 (0, 0))) := heap_alloc2_new w1 _ _
  have BW : Below w.heap.size w ((w1.alloc (.cells (bcells R).toArray 23)).alloc (.cells (bcells R).toArray 22)) := (hbel.alloc (by omega) _).alloc (by simp; omega) _
  clear K0 K1 hbel
  obtain ⟨hRb, hcase⟩ := next_val ha N
  have hl16 := N.length
  have hguard : Try.prog.eqGuardType Try.prog.depth 22 = false := by kernel_rfl
  have heq : ∀ W, (Op.equalIn 10000 22 (.agg (bcells R).toArray) (.agg (bcells (List.replicate 16 0)).toArray)).run Try.prog W = .ok (R == List.replicate 16 0) W := fun W => run_equalIn_bytes' W 9998 22 16 Try.underlying22 R (List.replicate 16 0) hl16 (by simp)
  rw [zeros16] at heq
  have cOA := cmp_val O A (by rw [ho.1, ha.1]) ho.2 ha.2
  have cAR := cmp_val A R (by rw [hRb.1, ha.1]) ha.2 hRb.2
  have cRO := cmp_val R O (by rw [hRb.1, ho.1]) hRb.2 ho.2
  have vO := val_bd O ho.2
  rw [ho.1] at vO
  rcases hcase with ⟨rfl, hv⟩ | ⟨rfl, hv, hR0⟩
  · have h1 : cmpL A R = -1 := by omega
    have h2 : cmpL O A ≤ 0 ∨ (cmpL O A = 1 ∧ cmpL R O ≤ 0) := by omega
    have H1 : Hid (cmpL A R = -1) := h1
    have H2 : Hid (cmpL O A ≤ 0 ∨ (cmpL O A = 1 ∧ cmpL R O ≤ 0)) := h2
    clear cOA cAR cRO vO hv heq h1 h2 N hl16
    go_wp2_with (first
      | (refine wpList_row_new rfl 23 (.tmp 5) (.tmp 11) rfl w1 _ 23 rfl _ w1.heap.size rfl rfl rfl (Try.row23 _ hR.out) (by rw [hR.out]; rfl) hall ?_)
      | (refine wpList_row_load rfl 23 (.tmp 5) rfl w1.heap.size rfl 23 _ _ r1 Try.underlying23 rfl (Try.row23 _ hR.out) ?_)
      | (refine wpList_row_new rfl 22 (.tmp 7) (.tmp 13) rfl (w1.alloc (.cells (bcells R).toArray 23)) _ 22 rfl _ (w1.heap.size + 1) (by simp) rfl rfl (Try.row22 _ hR.out) (by rw [hR.out]; rfl) hall ?_)
      | (refine wpList_row_load rfl 22 (.tmp 2) rfl w.heap.size rfl 22 X _ g0 Try.underlying22 rfl (Try.row22 _ Hx.out) ?_)
      | (refine wpList_row_load rfl 22 (.tmp 7) rfl (w1.heap.size + 1) rfl 22 _ _ g2 Try.underlying22 rfl (Try.row22 _ hR.out) ?_))
    refine (cmp_any A R X _ _ hX rfl ha hRb).mono ?_
    rw [H1.out]
    rintro e w2 ⟨rfl, b2⟩
    have f0 : Hid (w2.heap[w.heap.size]? = some (.cells X 22 (0, 0))) := by show _ = _; rw [b2.block _ (by simp; omega)]; exact g0.out
    have f1 : Hid (w2.heap[w.heap.size + 1]? = some (.cells Y 22 (0, 0))) := by show _ = _; rw [b2.block _ (by simp; omega)]; exact g1.out
    have f2 : Hid (w2.heap[w1.heap.size + 1]? = some (.cells (bcells R).toArray 22 (0, 0))) := by show _ = _; rw [b2.block _ (by simp)]; exact g2.out
    have B2 : Below w.heap.size w w2 := BW.trans (b2.mono BW.size)
    have z2 := b2.size
    simp only [World.size_alloc] at z2
    clear b2 g0 g1 g2 BW r1
    go_wp2_with (first
      | (refine wpList_row_load rfl 22 (.tmp 3) rfl (w.heap.size + 1) rfl 22 Y _ f1 Try.underlying22 rfl (Try.row22 _ Hy.out) ?_)
      | (refine wpList_row_load rfl 22 (.tmp 2) rfl w.heap.size rfl 22 X _ f0 Try.underlying22 rfl (Try.row22 _ Hx.out) ?_))
    refine (cmp_any O A Y X w2 hY hX ho ha).mono ?_
    rintro e w3 ⟨rfl, b3⟩
    have f1' : Hid (w3.heap[w.heap.size + 1]? = some (.cells Y 22 (0, 0))) := by show _ = _; rw [b3.block _ (by omega)]; exact f1.out
    have f2' : Hid (w3.heap[w1.heap.size + 1]? = some (.cells (bcells R).toArray 22 (0, 0))) := by show _ = _; rw [b3.block _ (by omega)]; exact f2.out
    have B3 : Below w.heap.size w w3 := B2.trans (b3.mono B2.size)
    clear b3 f0 f1 f2 B2
    rcases H2.out with h | ⟨h, h'⟩
    · generalize cmpL O A = c at h
      have hd : decide (c ≤ 0) = true := by simp; omega
      go_wp2_with (first
        | (refine wpList_row_load rfl 22 (.tmp 7) rfl (w1.heap.size + 1) rfl 22 _ _ f2' Try.underlying22 rfl (Try.row22 _ hR.out) ?_)
        | (refine wpList_row_load rfl 22 (.tmp 3) rfl (w.heap.size + 1) rfl 22 Y _ f1' Try.underlying22 rfl (Try.row22 _ Hy.out) ?_))
      go_ret
      exact ⟨ret_true (by simp; try omega), B3⟩
    · rw [h]
      go_wp2_with (first
        | (refine wpList_row_load rfl 22 (.tmp 7) rfl (w1.heap.size + 1) rfl 22 _ _ f2' Try.underlying22 rfl (Try.row22 _ hR.out) ?_)
        | (refine wpList_row_load rfl 22 (.tmp 3) rfl (w.heap.size + 1) rfl 22 Y _ f1' Try.underlying22 rfl (Try.row22 _ Hy.out) ?_))
      refine (cmp_any R O _ Y w3 rfl hY hRb ho).mono ?_
      rintro e w4 ⟨rfl, b4⟩
      generalize cmpL R O = c at h'
      go_wp2
      go_ret
      exact ⟨ret_true (by simp; try omega), B3.trans (b4.mono B3.size)⟩
  · have h1 : cmpL O A ≤ 0 := by omega
    have heb : (R == List.replicate 16 0) = true := by rw [hR0]; simp
    have heq' : ∀ W, (Op.equalIn 10000 22 (.agg (bcells R).toArray) (.agg #[.int .u8 0, .int .u8 0, .int .u8 0, .int .u8 0, .int .u8 0, .int .u8 0, .int .u8 0, .int .u8 0, .int .u8 0, .int .u8 0, .int .u8 0, .int .u8 0, .int .u8 0, .int .u8 0, .int .u8 0, .int .u8 0])).run Try.prog W = .ok true W := fun W => by rw [← heb]; exact heq W
    clear cOA cAR cRO vO hv heq N hRb hl16 hR0 heb
    go_wp2_with (first
      | (refine wpList_row_new rfl 23 (.tmp 5) (.tmp 11) rfl w1 _ 23 rfl _ w1.heap.size rfl rfl rfl (Try.row23 _ hR.out) (by rw [hR.out]; rfl) hall ?_)
      | (refine wpList_row_load rfl 23 (.tmp 5) rfl w1.heap.size rfl 23 _ _ r1 Try.underlying23 rfl (Try.row23 _ hR.out) ?_)
      | (refine wpList_row_new rfl 22 (.tmp 7) (.tmp 13) rfl (w1.alloc (.cells (bcells R).toArray 23)) _ 22 rfl _ (w1.heap.size + 1) (by simp) rfl rfl (Try.row22 _ hR.out) (by rw [hR.out]; rfl) hall ?_)
      | (refine wpList_row_load rfl 22 (.tmp 7) rfl (w1.heap.size + 1) rfl 22 _ _ g2 Try.underlying22 rfl (Try.row22 _ hR.out) ?_)
      | (refine wpList_row_load rfl 22 (.tmp 3) rfl (w.heap.size + 1) rfl 22 Y _ g1 Try.underlying22 rfl (Try.row22 _ Hy.out) ?_)
      | (refine wpList_row_load rfl 22 (.tmp 2) rfl w.heap.size rfl 22 X _ g0 Try.underlying22 rfl (Try.row22 _ Hx.out) ?_))
    refine (cmp_any O A Y X _ hY hX ho ha).mono ?_
    rintro e w3 ⟨rfl, b3⟩
    have B3 : Below w.heap.size w w3 := BW.trans (b3.mono BW.size)
    clear b3
    generalize cmpL O A = c at h1
    go_wp2
    go_ret
    exact ⟨ret_true (by simp; try omega), B3⟩
end Go.Proofs.Qxb6602021a
