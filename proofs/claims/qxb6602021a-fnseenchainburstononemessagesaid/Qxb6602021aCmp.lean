import Derived.Test.Qxb6602021aBase
namespace Go.Proofs.Qxb6602021a
open Go.ChangeShapes Go.WideShapes Go.ChangeAt Go.RowKit
set_option linter.unusedVariables false
set_option linter.unusedSimpArgs false

/-- Byte by byte: -1, 0 or 1. -/
def cmpL : List Int → List Int → Int
  | a :: l, b :: m => if a < b then -1 else if b < a then 1 else cmpL l m
  | _, _ => 0

theorem drop_cons {A : List Int} {k : Nat} (h : k < A.length) : A.drop k = A.getD k 0 :: A.drop (k + 1) := by
  rw [List.drop_eq_getElem_cons h]; simp [h]

theorem cmp_step {A B : List Int} {k : Nat} (ha : k < A.length) (hb : k < B.length) : cmpL (A.drop k) (B.drop k) = if A.getD k 0 < B.getD k 0 then -1 else if B.getD k 0 < A.getD k 0 then 1 else cmpL (A.drop (k + 1)) (B.drop (k + 1)) := by
  rw [drop_cons ha, drop_cons hb]; rfl

/-- The two boxed arrays. -/
structure Two (w wr : World) (A B : List Int) : Prop where
  a : ∀ i, i < 16 → wr.cell? ⟨w.heap.size, i, none⟩ = some (.int .u8 (A.getD i 0))
  b : ∀ i, i < 16 → wr.cell? ⟨w.heap.size + 1, i, none⟩ = some (.int .u8 (B.getD i 0))
  below : Below w.heap.size w wr

theorem Two.drewN {w wr : World} {A B : List Int} (h : Two w wr A B) (q : Nat) : Two w (wr.drewN q) A B :=
  ⟨h.a, h.b, ⟨h.below.os, h.below.tape, h.below.output, h.below.size, h.below.block⟩⟩

theorem two_start (w : World) (A B : List Int) (t u : TypeId) (ha : A.length = 16) (hb : B.length = 16) : Two w ((w.alloc (.cells (bcells A).toArray t)).alloc (.cells (bcells B).toArray u)) A B := by
  refine ⟨fun i hi => ?_, fun i hi => ?_, ((Below.refl _ _).alloc (Nat.le_refl _) _).alloc (by simp) _⟩
  · rw [World.cell?_alloc_past _ _ _ (by simp), World.cell?_alloc_at _ _ _ _ rfl]
    simpa using bcells_get (by omega)
  · rw [World.cell?_alloc_at _ _ _ _ (by simp)]
    simpa using bcells_get (by omega)

theorem ret_i64 {a b : Int} (h : a = b) : Ending.returned (.int .i64 a) = .returned (.int .i64 b) := by rw [h]

set_option maxRecDepth 100000 in
set_option maxHeartbeats 1000000 in
theorem cmp_any (A B : List Int) (X Y : Array Value) (w : World) (hX : Hid (X = (bcells A).toArray)) (hY : Hid (Y = (bcells B).toArray)) (ha : IsBytes 16 A) (hb : IsBytes 16 B) :
    Calls Try.prog 10 #[.agg X, .agg Y] w fun e w' => e = .returned (.int .i64 (cmpL A B)) ∧ Below w.heap.size w w' := by
  go_enter Try.func10, Try.ntmps10
  go_wp2
  go_loopg [5] 16 (fun g i wr => ∃ k : Nat, k + g = 16 ∧ i = .int .i64 k ∧ cmpL (A.drop k) (B.drop k) = cmpL A B ∧ Two w wr A B)
  case atStart => exact ⟨0, by omega, rfl, by simp, by rw [hX.out, hY.out]; exact two_start w A B 22 22 ha.1 hb.1⟩
  case round =>
    obtain ⟨k, hk, rfl, hc, T⟩ := hrel
    have hk' : k ≤ 16 := by omega
    have Hk : Hid (k + gk = 16) := hk
    have Hc : Hid (cmpL (A.drop k) (B.drop k) = cmpL A B) := hc
    clear hk hc
    by_cases hlt : k < 16
    · have hs := cmp_step (A := A) (B := B) (k := k) (by have := ha.1; omega) (by have := hb.1; omega)
      have hxa := T.a k hlt
      have hxb := T.b k hlt
      generalize A.getD k 0 = x at hs hxa
      generalize B.getD k 0 = y at hs hxb
      have Hs : Hid (cmpL (A.drop k) (B.drop k) = if x < y then -1 else if y < x then 1 else cmpL (A.drop (k + 1)) (B.drop (k + 1))) := hs
      clear hs
      have hd : decide ((k : Int) < 16) = true := by simp; omega
      rcases (show x < y ∨ (y < x ∧ ¬ x < y) ∨ x = y by omega) with h | ⟨h, h'⟩ | h
      · go_wp2
        go_quiet (fail)
        go_wp2
        go_ret
        exact ⟨ret_i64 (by rw [← Hc.out, Hs.out, if_pos h]), (T.drewN _).below⟩
      · go_wp2
        go_quiet (fail)
        go_wp2
        go_quiet (fail)
        go_wp2
        go_ret
        exact ⟨ret_i64 (by rw [← Hc.out, Hs.out, if_neg (by omega), if_pos h]), ((T.drewN _).drewN _).below⟩
      · subst h
        go_wp2
        go_quiet (fail)
        go_wp2
        go_quiet (fail)
        go_wp2
        go_roundg (gk - 1)
        case rel =>
          have := Hk.out
          exact ⟨k + 1, by omega, by go_num, by rw [← Hc.out, Hs.out, if_neg (by omega), if_neg (by omega)], T.drewN _⟩
        case measure => have := Hk.out; omega
    · go_wp2
      go_ret
      exact ⟨ret_i64 (by rw [← Hc.out, List.drop_eq_nil_of_le (by have := ha.1; omega)]; simp [cmpL]), T.below⟩
end Go.Proofs.Qxb6602021a
