/- put, as a whole. -/
import Derived.Test.Qxb6602021aPut1
namespace Go.Proofs.Qxb6602021a
open Go.ChangeShapes Go.WideShapes Go.ChangeAt Go.RowKit
set_option linter.unusedVariables false
set_option linter.unusedSimpArgs false

theorem MapAt.keep {w w' : World} {r : Option Nat} {n : Nat} {m : Rec} (X : Nat → Prop) (h : MapAt w r m n) (hs : ∀ k, k < w.heap.size → ¬ X k → w'.heap[k]? = w.heap[k]?) (hb : ∀ b, r = some b → ¬ X b) (hX : ∀ (g : Nat) (cs : Array Value) (z : Nat × Nat), X g → w.heap[g]? ≠ some (Obj.cells cs 23 z)) : MapAt w' r m n := by
  cases r with
  | none => exact h
  | some b => exact IsMap.keep X h hs (hb b rfl) hX

/-- What put turns R, O into. -/
structure PutTo (R O : Rec) (n : Nat) (S : List Int) (q : Int) (L : List (List Int)) (R' O' : Rec) (n' : Nat) : Prop where
  ex : (R' = R.put S q L ∧ O' = O ∧ n' ≤ n + 1 ∧ (R S q ≠ none ∨ n < 8192)) ∨ (R S q = none ∧ 8192 ≤ n ∧ R' = Rec.nil.put S q L ∧ O' = R)

theorem seen_new {F : Nat → Prop} {w w' : World} {A n no : Nat} {R O m : Rec} {r o : Option Nat} (hS : Seen F w A R O n) (hA : w.heap[A]? = some (.cells #[.map r, .map o] 58 (0, 0))) {o' : Option Nat} {O' : Rec} (hO : MapAt w o' O' no) (h : NewMap w w' A o' m) : ∃ n', Seen F w' A m O' n' ∧ n' ≤ 1 ∧ Kept F w w' := by
  obtain ⟨nb, n', hnb, hA', st, hn⟩ := h
  have hne : ∀ b, o' = some b → ¬ b = A ∧ b < w.heap.size := fun b e => by
    subst e
    obtain ⟨es, clock, hb, _⟩ := IsMap.ex hO
    exact ⟨fun e => (by rw [e, hA] at hb; cases hb), (Array.getElem?_eq_some_iff.1 hb).1⟩
  have hlt := hS.lt
  refine ⟨n', ⟨⟨some nb, o', no, hA', st.map, hO.keep (· = A) st.block (fun b e => (hne b e).1) (fun g cs z e hg => by subst e; rw [hA] at hg; simp at hg), fun b e => ?_⟩, hS.fA, fun k hk => Nat.lt_of_lt_of_le (hS.lt k hk) st.size⟩, hn, ⟨st.os, st.tape, st.output, st.size, fun k hk => st.block k (hS.lt k hk) (fun e => hS.fA (e ▸ hk))⟩⟩
  obtain rfl : nb = b := by simpa using e
  exact ⟨fun hf => by have := hlt nb hf; omega, fun e => by have := (hne nb e).2; omega⟩

theorem seen_same {F : Nat → Prop} {w w' : World} {A n b no n' : Nat} {R O m : Rec} {o : Option Nat} (hS : Seen F w A R O n) (hA : w.heap[A]? = some (.cells #[.map (some b), .map o] 58 (0, 0))) (hR : IsMap w b R n) (hO : MapAt w o O no) (hF : ¬ F b ∧ o ≠ some b) (st : Stored w w' (· = b) b m n') : Seen F w' A m O n' ∧ Kept F w w' := by
  obtain ⟨es, clock, hb, _⟩ := hR.ex
  have hAb : ¬ A = b := fun e => by subst e; rw [hA] at hb; cases hb
  refine ⟨⟨⟨some b, o, no, by rw [st.block A hS.lt_A hAb]; exact hA, st.map, hO.keep (· = b) st.block (fun c e h => hF.2 (by rw [e, h])) (fun g cs z e hg => by subst e; rw [hb] at hg; cases hg), fun c e => ?_⟩, hS.fA, fun k hk => Nat.lt_of_lt_of_le (hS.lt k hk) st.size⟩, ⟨st.os, st.tape, st.output, st.size, fun k hk => st.block k (hS.lt k hk) (fun e => hF.1 (e ▸ hk))⟩⟩
  obtain rfl : b = c := by simpa using e
  exact hF

theorem put_any (F : Nat → Prop) (A n : Nat) (R O : Rec) (S : List Int) (q : Int) (Y : List Value) (L : List (List Int)) (g c : Nat) (w : World) (hS : Seen F w A R O n) (hk : IsKey S q) (hY : Hid (Y = bcells S ++ [Value.int .u64 q])) (hv : Row w (.slice (some ⟨g, 0, none⟩) L.length c) L) :
    Calls Try.prog 25 #[.pointer (some ⟨A, 0, none⟩), .agg Y.toArray, .slice (some ⟨g, 0, none⟩) L.length c, .int .i64 16384] w fun e w' => e = .returned (.tuple #[]) ∧ ∃ R' O' n', Seen F w' A R' O' n' ∧ Kept F w w' ∧ PutTo R O n S q L R' O' n' := by
  obtain ⟨r, o, no, hA, hR, hO, hF⟩ := hS.ex
  cases r with
  | none =>
    obtain ⟨rfl, rfl⟩ := hR
    refine (put_new A 0 o Rec.nil 0 S q Y L g c w hk hY hv hA).mono ?_
    rintro e w' ⟨rfl, h⟩
    obtain ⟨n', hs, hn, hK⟩ := seen_new hS hA hO h
    exact ⟨rfl, _, _, n', hs, hK, ⟨.inl ⟨rfl, rfl, by omega, .inr (by omega)⟩⟩⟩
  | some b =>
    cases hRS : R S q with
    | some M =>
      refine (put_some A b o R n S q Y L g c w hk hY hv hA hR M hRS).mono ?_
      rintro e w' ⟨rfl, n', st, hn⟩
      obtain ⟨hs, hK⟩ := seen_same hS hA hR hO (hF b rfl) st
      exact ⟨rfl, _, _, n', hs, hK, ⟨.inl ⟨rfl, rfl, hn, .inl (by rw [hRS]; simp)⟩⟩⟩
    | none =>
      by_cases hn8 : n < 8192
      · refine (put_none A b o R n S q Y L g c w hk hY hv hA hR hRS hn8).mono ?_
        rintro e w' ⟨rfl, n', st, hn⟩
        obtain ⟨hs, hK⟩ := seen_same hS hA hR hO (hF b rfl) st
        exact ⟨rfl, _, _, n', hs, hK, ⟨.inl ⟨rfl, rfl, hn, .inr hn8⟩⟩⟩
      · refine (put_rot A b o R n S q Y L g c w hk hY hv hA hR hRS (by omega)).mono ?_
        rintro e w' ⟨rfl, h⟩
        obtain ⟨n', hs, hn, hK⟩ := seen_new hS hA (o' := some b) (O' := R) hR h
        exact ⟨rfl, _, _, n', hs, hK, ⟨.inr ⟨hRS, by omega, rfl, rfl⟩⟩⟩
end Go.Proofs.Qxb6602021a
