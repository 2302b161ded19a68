/- zzReadKey, PutUvarint, uvarintLen, keySize, ZZKeySize. -/
import Derived.Test.Qxb6003417aRead
namespace Go.Proofs.Qxb6003417a
open Go.ChangeShapes Go.WideShapes Go.ChangeAt Go.RowKit
set_option linter.unusedVariables false
set_option linter.unusedSimpArgs false

set_option maxRecDepth 100000 in
set_option maxHeartbeats 2000000 in
theorem readKey_core (g n c pos N J : Nat) (w : World) (hN : N ≤ 1048576) (hJ : Hid (J = pos + (uv N).length)) (hJn : J + N ≤ n) (hnc : n ≤ c) (hm : n ≤ 2097152) (hc : Hid (∀ j u, (bcells (uv N))[j]? = some u → w.cell? ⟨g, pos + j, none⟩ = some u)) :
    Calls Try.prog 25 #[.slice (some ⟨g, 0, none⟩) n c, .int .i64 pos] w fun e w' => e = .returned (.tuple #[.slice (if c = J then some ⟨g, 0, none⟩ else some ⟨g, J, none⟩) N (c - J), .int .i64 (J + N : Nat)]) ∧ w = w' := by
  go_enter Try.func25, Try.ntmps25
  go_wp2_with fail
  refine (uvread_any g n c pos N w (by omega) (by have := hJ.out; omega) hm hc.out).mono ?_
  rw [← hJ.out]
  rintro e w' ⟨rfl, rfl⟩
  go_wp2
  all_goals (go_ret2; exact ⟨rfl, rfl⟩)

/-- zzReadKey reads a key back: its length's varint, its bytes. -/
theorem readKey_any (g n c pos : Nat) (K : List Int) (w : World) (hN : K.length ≤ 1048576) (hp : pos + (uv K.length ++ K).length ≤ n) (hnc : n ≤ c) (hm : n ≤ 2097152)
    (hc : ∀ j u, (bcells (uv K.length ++ K))[j]? = some u → w.cell? ⟨g, pos + j, none⟩ = some u) :
    Calls Try.prog 25 #[.slice (some ⟨g, 0, none⟩) n c, .int .i64 pos] w fun e w' => ∃ s c', e = .returned (.tuple #[.slice s K.length c', .int .i64 (pos + (uv K.length ++ K).length : Nat)]) ∧ BL w s K ∧ w = w' := by
  have hl : (uv K.length ++ K).length = (uv K.length).length + K.length := by simp
  refine (readKey_core g n c pos K.length (pos + (uv K.length).length) w hN rfl (by omega) hnc hm ?_).mono ?_
  · intro j u hu
    exact hc j u (by rw [bcells_append, List.getElem?_append_left (List.getElem?_eq_some_iff.1 hu).1]; exact hu)
  · rintro e w' ⟨rfl, rfl⟩
    refine ⟨_, _, by rw [hl, Nat.add_assoc], ?_, rfl⟩
    by_cases hcj : c = pos + (uv K.length).length
    · have h0 : K = [] := List.eq_nil_of_length_eq_zero (by omega)
      rw [if_pos hcj, h0]
      exact ⟨fun _ => rfl, fun x hx j u hu => by simp [bcells] at hu⟩
    · rw [if_neg hcj]
      refine ⟨(by intro h; cases h), fun x hx j u hu => ?_⟩
      obtain rfl := Option.some.inj hx
      rw [Addr.add_lit, Nat.add_assoc]
      refine hc _ u ?_
      rw [bcells_append, List.getElem?_append_right (by rw [bcells_length]; omega), bcells_length, Nat.add_sub_cancel_left]
      exact hu

/-- Ten cells that may be written. -/
structure Ten (w : World) (g : Nat) : Prop where
  cell : ∀ j, j < 10 → ∃ v, w.cell? ⟨g, j, none⟩ = some v
  free : ∀ j, w.frozen? ⟨g, j, none⟩ = false

theorem Ten.store {w : World} {g : Nat} (h : Ten w g) (i : Nat) (v : Value) : Ten (w.setCell ⟨g, i, none⟩ v) g := by
  refine ⟨fun j hj => ?_, fun j => by rw [World.frozen?_setCell]; exact h.free j⟩
  obtain ⟨u, hu⟩ := h.cell j hj
  by_cases e : j = i
  · subst e; exact ⟨v, World.cell?_setCell_same _ _ _ hu⟩
  · exact ⟨u, by rw [World.cell?_setCell_other _ _ _ _ (fun e' => e (by injection e' with _ e2; exact e2.symm))]; exact hu⟩

set_option maxRecDepth 100000 in
set_option maxHeartbeats 2000000 in
theorem put_any (g x : Nat) (w : World) (hx : x < 2097152) (h : Ten w g) :
    Calls Try.prog 64 #[.slice (some ⟨g, 0, none⟩) 10 10, .int .u64 x] w fun e w' => e = .returned (.int .i64 ((uv x).length : Nat)) ∧ Below g w w' := by
  go_enter Try.func64, Try.ntmps64
  go_wp2
  go_loopg [1, 5] x (fun G t i wr => ∃ y k : Nat, t = .int .u64 y ∧ i = .int .i64 k ∧ y ≤ G ∧ y < 2097152 ∧ k + (uv y).length = (uv x).length ∧ Ten wr g ∧ Below g w wr)
  case atStart => exact ⟨x, 0, rfl, rfl, Nat.le_refl _, hx, by simp, h, Below.refl _ _⟩
  case round =>
    obtain ⟨y, k, rfl, rfl, hy, hy2, hlen, T, hb⟩ := hrel
    have hk3 : k ≤ 2 := by have := uv_len x; have := uv_pos y; omega
    have Hlen : Hid (k + (uv y).length = (uv x).length) := hlen
    clear hlen
    obtain ⟨u, hu⟩ := T.cell k (by omega)
    have hf := T.free k
    by_cases hlt : 128 ≤ y
    · go_wp2
      go_roundg (y / 128)
      case rel =>
        refine ⟨y / 128, k + 1, by simp, by go_num, Nat.le_refl _, by omega, ?_, T.store _ _, hb.setCell (p := ⟨g, k, none⟩) (Nat.le_refl g) _⟩
        have := Hlen.out
        rw [uv_more hlt hy2] at this
        simp at this ⊢
        omega
      case measure => omega
    · go_wp2
      go_ret
      refine ⟨?_, hb.setCell (p := ⟨g, k, none⟩) (Nat.le_refl g) _⟩
      have := Hlen.out
      rw [uv_last (by omega)] at this
      rw [← this]
      simp

theorem ten_new (w : World) (z : Value) (t : TypeId) : Ten (w.alloc (.cells #[z, z, z, z, z, z, z, z, z, z] t)) w.heap.size := by
  refine ⟨fun j hj => ⟨z, ?_⟩, fun j => World.frozen?_alloc_at _ _ _ _ rfl⟩
  rw [World.cell?_alloc_at _ _ _ _ rfl]
  rcases (show j = 0 ∨ j = 1 ∨ j = 2 ∨ j = 3 ∨ j = 4 ∨ j = 5 ∨ j = 6 ∨ j = 7 ∨ j = 8 ∨ j = 9 by omega) with rfl | rfl | rfl | rfl | rfl | rfl | rfl | rfl | rfl | rfl <;> rfl

set_option maxRecDepth 100000 in
set_option maxHeartbeats 2000000 in
theorem uvlen_any (x : Nat) (w : World) (hx : x < 2097152) :
    Calls Try.prog 56 #[.int .u64 x] w fun e w' => e = .returned (.int .i64 ((uv x).length : Nat)) ∧ Below w.heap.size w w' := by
  go_enter Try.func56, Try.ntmps56
  go_wp2_with fail
  refine (put_any w.heap.size x _ hx (ten_new w _ 97)).mono ?_
  rintro e w1 ⟨rfl, hb⟩
  have hb1 : Below w.heap.size w w1 := ((Below.refl _ _).alloc (Nat.le_refl _) _).trans hb
  clear hb
  go_wp2
  go_ret
  exact ⟨rfl, hb1⟩

set_option maxRecDepth 100000 in
set_option maxHeartbeats 2000000 in
theorem keySize_any (s : Option Addr) (n c : Nat) (w : World) (hn : n ≤ 1048576) :
    Calls Try.prog 26 #[.slice s n c] w fun e w' => e = .returned (.int .i64 ((uv n).length + n : Nat)) ∧ Below w.heap.size w w' := by
  have hl := uv_len n
  go_enter Try.func26, Try.ntmps26
  go_wp2_with (first | (go_at_call 46; go_in) | (go_at_call 56; refine (uvlen_any n _ (by omega)).mono ?_; rintro e w1 ⟨rfl, hb⟩))
  go_ret
  exact ⟨rfl, hb⟩

end Go.Proofs.Qxb6003417a
