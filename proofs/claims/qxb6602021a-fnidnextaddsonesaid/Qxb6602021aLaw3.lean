import Derived.Test.Qxb6602021aWord
namespace Go.Proofs.Qxb6602021a
open Go.ChangeShapes Go.WideShapes Go.ChangeAt Go.RowKit
set_option linter.unusedVariables false
set_option linter.unusedSimpArgs false

theorem ret_true' {b : Bool} (h : b = true) : Ending.returned (.bool b) = .returned (.bool true) := by rw [h]

theorem val_words {A : List Int} (ha : IsBytes 16 A) : val A = word A 0 8 * 18446744073709551616 + word A 8 8 := by
  have e : A = (A.drop 0).take 8 ++ (A.drop 8).take 8 := by
    rw [List.drop_zero]
    conv => lhs; rw [← List.take_append_drop 8 A]
    rw [List.take_of_length_le (l := A.drop 8) (by have := ha.1; simp; omega)]
  have h := val_append ((A.drop 0).take 8) ((A.drop 8).take 8)
  rw [← e] at h
  rw [h]
  have : ((A.drop 8).take 8).length = 8 := by have := ha.1; simp; omega
  rw [this]
  unfold word
  simp only [Int.reducePow]

set_option maxRecDepth 100000 in
set_option maxHeartbeats 2000000 in
theorem law3_walk (A : List Int) (X : Array Value) (w : World) (hX : Hid (X = (bcells A).toArray)) (ha : IsBytes 16 A) :
    Calls Try.prog 3 #[.agg X] w fun e w' => e = .returned (.bool true) ∧ Below w.heap.size w w' := by
  have Hx : Hid (X.size = 16) := by show _ = _; rw [hX.out, List.size_toArray, bcells_length]; exact ha.1
  have h0 : Hid ((w.alloc (.cells X 22)).heap[w.heap.size]? = some (.cells X 22 (0, 0))) := heap_alloc_new w _
  go_enter Try.func3, Try.ntmps3
  go_wp2_with (refine wpList_row_load rfl 22 (.tmp 1) rfl w.heap.size rfl 22 X _ h0 Try.underlying22 rfl (Try.row22 _ Hx.out) ?_)
  refine (zznext_any A X _ hX ha).mono ?_
  rintro e w1 ⟨R, b, rfl, N, hb⟩
  have hR : Hid ((bcells R).toArray.size = 16) := by show _ = _; rw [List.size_toArray, bcells_length]; exact N.length
  have hall : Hid ((bcells R).toArray.all (·.oneCell') = true) := bcells_all R
  have hz : w.heap.size + 1 ≤ w1.heap.size := by have := hb.size; simp at this; omega
  have k0 : Hid ((w1.alloc (.cells (bcells R).toArray 23)).heap[w.heap.size]? = some (.cells X 22 (0, 0))) := by
    show _ = _
    rw [heap_alloc_old _ _ (h := by omega), hb.block _ (by simp)]; exact heap_alloc_new w _
  have k1 : Hid ((w1.alloc (.cells (bcells R).toArray 23)).heap[w1.heap.size]? = some (.cells (bcells R).toArray 23 (0, 0))) := heap_alloc_new w1 _
  have BW : Below w.heap.size w (w1.alloc (.cells (bcells R).toArray 23)) := (((Below.refl _ _).alloc (Nat.le_refl _) _).trans (hb.mono (by simp))).alloc (by omega) _
  clear h0 hb
  go_wp2_with (first
    | (refine wpList_row_new rfl 23 (.tmp 3) (.tmp 13) rfl w1 _ 23 rfl _ w1.heap.size rfl rfl rfl (Try.row23 _ hR.out) (by rw [hR.out]; rfl) hall ?_)
    | (refine wpList_row_load rfl 22 (.tmp 1) rfl w.heap.size rfl 22 X _ k0 Try.underlying22 rfl (Try.row22 _ Hx.out) ?_))
  refine (word_any A X 0 _ hX ha (by omega)).mono ?_
  rintro e w2 ⟨rfl, b2⟩
  have z2 := b2.size
  simp only [World.size_alloc] at z2
  have m0 : Hid (w2.heap[w.heap.size]? = some (.cells X 22 (0, 0))) := by show _ = _; rw [b2.block _ (by simp; omega)]; exact k0.out
  have m1 : Hid (w2.heap[w1.heap.size]? = some (.cells (bcells R).toArray 23 (0, 0))) := by show _ = _; rw [b2.block _ (by simp)]; exact k1.out
  have B2 : Below w.heap.size w w2 := BW.trans (b2.mono BW.size)
  clear k0 k1 BW b2
  go_wp2_with (refine wpList_row_load rfl 22 (.tmp 1) rfl w.heap.size rfl 22 X _ m0 Try.underlying22 rfl (Try.row22 _ Hx.out) ?_)
  refine (word_any A X 8 w2 hX ha (by omega)).mono ?_
  rintro e w3 ⟨rfl, b3⟩
  have z3 := b3.size
  have n1 : Hid (w3.heap[w1.heap.size]? = some (.cells (bcells R).toArray 23 (0, 0))) := by show _ = _; rw [b3.block _ (by omega)]; exact m1.out
  have B3 : Below w.heap.size w w3 := B2.trans (b3.mono B2.size)
  clear m0 m1 B2 b3
  obtain ⟨hRb, hcase⟩ := next_val ha N
  have hl16 := N.length
  have hguard : Try.prog.eqGuardType Try.prog.depth 22 = false := by kernel_rfl
  have vA := val_words ha
  have b0 := word_bd ha.2 0 8 (by have := ha.1; omega)
  have b8 := word_bd ha.2 8 8 (by have := ha.1; omega)
  have vR := val_bd R hRb.2
  rw [hRb.1] at vR
  simp only [Int.reducePow] at b0 b8 vR hcase
  obtain ⟨hi, hhi⟩ := Int.eq_ofNat_of_zero_le b0.1
  obtain ⟨lo, hlo⟩ := Int.eq_ofNat_of_zero_le b8.1
  rw [hhi] at b0 vA ⊢
  rw [hlo] at b8 vA ⊢
  clear hhi hlo
  by_cases c1 : (hi : Int) = 18446744073709551615 ∧ (lo : Int) = 18446744073709551615
  · have hb0 : b = false ∧ R = List.replicate 16 0 := by
      rcases hcase with ⟨_, h⟩ | ⟨h1, _, h2⟩
      · exfalso; omega
      · exact ⟨h1, h2⟩
    obtain ⟨rfl, hR0⟩ := hb0
    have heq' : ∀ W, (Op.equalIn 10000 22 (.agg (bcells R).toArray) (.agg #[.int .u8 0, .int .u8 0, .int .u8 0, .int .u8 0, .int .u8 0, .int .u8 0, .int .u8 0, .int .u8 0, .int .u8 0, .int .u8 0, .int .u8 0, .int .u8 0, .int .u8 0, .int .u8 0, .int .u8 0, .int .u8 0])).run Try.prog W = .ok true W := fun W => by
      have := run_equalIn_bytes' W 9998 22 16 Try.underlying22 R (List.replicate 16 0) hl16 (by simp)
      rw [zeros16] at this
      rw [this, hR0]; rfl
    have e1 : ((hi : Int) == 18446744073709551615) = true := by simp [c1.1]
    have e2 : ((lo : Int) == 18446744073709551615) = true := by simp [c1.2]
    clear hcase vA b0 b8 vR hR0 c1 hl16 hRb N
    go_wp2_with (refine wpList_row_load rfl 23 (.tmp 3) rfl w1.heap.size rfl 23 _ _ n1 Try.underlying23 rfl (Try.row23 _ hR.out) ?_)
    go_ret
    exact ⟨ret_true' (by simp), B3⟩
  · have e12 : ((hi : Int) == 18446744073709551615) = false ∨ (((hi : Int) == 18446744073709551615) = true ∧ ((lo : Int) == 18446744073709551615) = false) := by
      by_cases h : (hi : Int) = 18446744073709551615
      · right; refine ⟨by simp [h], ?_⟩
        have : ¬ (lo : Int) = 18446744073709551615 := fun h' => c1 ⟨h, h'⟩
        simpa using this
      · left; simpa using h
    have hb1 : b = true := by
      rcases hcase with ⟨h, _⟩ | ⟨_, h, _⟩
      · exact h
      · omega
    subst hb1
    have hv : val R = val A + 1 := by
      rcases hcase with ⟨_, h⟩ | ⟨h, _⟩
      · exact h
      · cases h
    obtain ⟨hi2, lo2, hcmb, hw1, hw2, e3⟩ : ∃ hi2 lo2 : Nat, ((hi2 : Int) * 18446744073709551616 + lo2 = val A + 1 ∧ hi2 < 18446744073709551616 ∧ lo2 < 18446744073709551616) ∧ IntKind.u64.wrap ((lo : Int) + 1) = (lo2 : Int) ∧ IntKind.u64.wrap ((hi : Int) + 1) = IntKind.u64.wrap ((hi : Int) + 1) ∧ ((((lo2 : Int) == 0) = true ∧ IntKind.u64.wrap ((hi : Int) + 1) = (hi2 : Int)) ∨ (((lo2 : Int) == 0) = false ∧ hi2 = hi)) := by
      by_cases hl : (lo : Int) = 18446744073709551615
      · refine ⟨hi + 1, 0, ⟨?_, ?_, ?_⟩, ?_, rfl, .inl ⟨rfl, ?_⟩⟩
        · rw [vA, hl]; omega
        · omega
        · omega
        · rw [IntKind.wrap_u64, hl]; rfl
        · rw [IntKind.wrap_u64]; omega
      · refine ⟨hi, lo + 1, ⟨?_, ?_, ?_⟩, ?_, rfl, .inr ⟨?_, rfl⟩⟩
        · rw [vA]; omega
        · omega
        · omega
        · rw [IntKind.wrap_u64]; omega
        · simp; omega
    clear hw2
    obtain ⟨hWb, hWv⟩ := want_val hi2 lo2 hcmb.2.1 hcmb.2.2
    obtain ⟨Wn, hWn0⟩ : ∃ Wn, Wn = put8 (put8 (List.replicate 16 0) 0 hi2 0) 8 lo2 0 := ⟨_, rfl⟩
    have HWn : Hid (Wn = put8 (put8 (List.replicate 16 0) 0 hi2 0) 8 lo2 0) := hWn0
    rw [← hWn0] at hWb hWv
    have hRW : R = Wn := by
      have := cmp_val R Wn (by rw [hRb.1, hWb.1]) hRb.2 hWb.2
      rcases this with ⟨h, _⟩ | ⟨_, _, h⟩ | ⟨h, _⟩
      · omega
      · exact h
      · omega
    have hWn : Hid ((bcells Wn).toArray.size = 16) := by show _ = _; rw [List.size_toArray, bcells_length]; exact hWb.1
    have heq : ∀ W, (Op.equalIn 10000 22 (.agg (bcells R).toArray) (.agg (bcells Wn).toArray)).run Try.prog W = .ok true W := fun W => by
      rw [run_equalIn_bytes' W 9998 22 16 Try.underlying22 R Wn hl16 hWb.1, hRW]; simp
    clear hcase vA b0 b8 vR hv hcmb hWb hWv hWn0 hRW hl16 hRb N
    clear c1
    have e123 : Hid ((((hi : Int) == 18446744073709551615) = false ∨ (((hi : Int) == 18446744073709551615) = true ∧ ((lo : Int) == 18446744073709551615) = false))) := e12
    clear e12
    rcases e3 with ⟨e3, hw2⟩ | ⟨e3, rfl⟩
    · rcases e123.out with e1 | ⟨e1, e2⟩
      all_goals
        go_wp2_with fail
        refine (setWord_any w3.heap.size 0 hi2 (List.replicate 16 0) _ (by simp) (by omega) (heap_alloc_new w3 _)).mono ?_
        rintro e w4 ⟨rfl, r4, b4⟩
        have z4 := b4.size
        simp only [World.size_alloc] at z4
        have R4 : Hid (w4.heap[w3.heap.size]? = some (.cells (bcells (put8 (List.replicate 16 0) 0 hi2 0)).toArray 22 (0, 0))) := r4
        have n4 : Hid (w4.heap[w1.heap.size]? = some (.cells (bcells R).toArray 23 (0, 0))) := by show _ = _; rw [b4.block _ (by omega), heap_alloc_old _ _ (h := by omega)]; exact n1.out
        have B4 : Below w.heap.size w w4 := (B3.alloc (by have := B3.size; omega) _).trans (b4.mono (by have := B3.size; omega))
        clear r4 b4
        go_wp2_with fail
        refine (setWord_any w3.heap.size 8 lo2 _ w4 (put8_length _ _ _ _) (by omega) R4.out).mono ?_
        rintro e w5 ⟨rfl, r5, b5⟩
        rw [← HWn.out] at r5
        have R5 : Hid (w5.heap[w3.heap.size]? = some (.cells (bcells Wn).toArray 22 (0, 0))) := r5
        have n5 : Hid (w5.heap[w1.heap.size]? = some (.cells (bcells R).toArray 23 (0, 0))) := by show _ = _; rw [b5.block _ (by omega)]; exact n4.out
        have B5 : Below w.heap.size w w5 := B4.trans (b5.mono (by have := B3.size; omega))
        clear r5 b5 R4 n4 n1 B3 B4
        go_wp2_with (first
          | (refine wpList_row_load rfl 23 (.tmp 3) rfl w1.heap.size rfl 23 _ _ n5 Try.underlying23 rfl (Try.row23 _ hR.out) ?_)
          | (refine wpList_row_load rfl 22 (.tmp 9) rfl w3.heap.size rfl 22 _ _ R5 Try.underlying22 rfl (Try.row22 _ hWn.out) ?_))
        go_ret
        exact ⟨ret_true' (by simp), B5⟩
    · rcases e123.out with e1 | ⟨e1, e2⟩
      all_goals
        go_wp2_with fail
        refine (setWord_any w3.heap.size 0 hi2 (List.replicate 16 0) _ (by simp) (by omega) (heap_alloc_new w3 _)).mono ?_
        rintro e w4 ⟨rfl, r4, b4⟩
        have z4 := b4.size
        simp only [World.size_alloc] at z4
        have R4 : Hid (w4.heap[w3.heap.size]? = some (.cells (bcells (put8 (List.replicate 16 0) 0 hi2 0)).toArray 22 (0, 0))) := r4
        have n4 : Hid (w4.heap[w1.heap.size]? = some (.cells (bcells R).toArray 23 (0, 0))) := by show _ = _; rw [b4.block _ (by omega), heap_alloc_old _ _ (h := by omega)]; exact n1.out
        have B4 : Below w.heap.size w w4 := (B3.alloc (by have := B3.size; omega) _).trans (b4.mono (by have := B3.size; omega))
        clear r4 b4
        go_wp2_with fail
        refine (setWord_any w3.heap.size 8 lo2 _ w4 (put8_length _ _ _ _) (by omega) R4.out).mono ?_
        rintro e w5 ⟨rfl, r5, b5⟩
        rw [← HWn.out] at r5
        have R5 : Hid (w5.heap[w3.heap.size]? = some (.cells (bcells Wn).toArray 22 (0, 0))) := r5
        have n5 : Hid (w5.heap[w1.heap.size]? = some (.cells (bcells R).toArray 23 (0, 0))) := by show _ = _; rw [b5.block _ (by omega)]; exact n4.out
        have B5 : Below w.heap.size w w5 := B4.trans (b5.mono (by have := B3.size; omega))
        clear r5 b5 R4 n4 n1 B3 B4
        go_wp2_with (first
          | (refine wpList_row_load rfl 23 (.tmp 3) rfl w1.heap.size rfl 23 _ _ n5 Try.underlying23 rfl (Try.row23 _ hR.out) ?_)
          | (refine wpList_row_load rfl 22 (.tmp 9) rfl w3.heap.size rfl 22 _ _ R5 Try.underlying22 rfl (Try.row22 _ hWn.out) ?_))
        go_ret
        exact ⟨ret_true' (by simp), B5⟩
end Go.Proofs.Qxb6602021a
