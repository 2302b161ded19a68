/- Arguments []ChainCall and [][16]byte, opened. -/
import Derived.Test.Qxb6602021aCd
import Derived.Test.Qxb6602021aOpen
import Derived.Deep.Slices
namespace Go.Proofs.Qxb6602021a
open Go.ChangeShapes Go.WideShapes Go.ChangeAt Go.RowKit Go.Deep
set_option linter.unusedVariables false
set_option linter.unusedSimpArgs false

theorem Try.cells42 : Try.prog.cellsOf 42 = 33 := by kernel_rfl

/-- One call that reads as data. -/
theorem open_call {H : Type} {enc : TypeId × Value → H} {W : World} {base : Nat} {spare : Nat → Bool} {held : Bool} {fuel : Nat} {cs : List Value} {x : DataW H × List MemPlace} (h : DataW.trod enc Try.prog W base spare held fuel 42 cs = some x) : ∃ c, OkCall c ∧ cs = callCells c := by
  obtain ⟨xs, m, _, _, hl, hn, hi⟩ := DataW.trod_struct Try.underlying42 h
  rw [Try.cells42] at hl
  have h0 : DataW.trod enc Try.prog W base spare held m 22 ((cs.drop 0).take (Try.prog.cellsOf 22)) = xs[0]? := hi 0 _ rfl
  have h1 : DataW.trod enc Try.prog W base spare held m 26 ((cs.drop 16).take (Try.prog.cellsOf 26)) = xs[1]? := hi 1 _ rfl
  have h2 : DataW.trod enc Try.prog W base spare held m 22 ((cs.drop 17).take (Try.prog.cellsOf 22)) = xs[2]? := hi 2 _ rfl
  rw [Try.cells22] at h0 h2
  rw [Try.cells26] at h1
  rw [List.getElem?_eq_getElem (by rw [hn]; decide)] at h0 h1 h2
  obtain ⟨A, hA, e0⟩ := open_row16 h0
  obtain ⟨B, hB, e2⟩ := open_row16 h2
  obtain ⟨q, e1, _, hq⟩ := DataW.trod_int Try.underlying26 h1
  have hq' : 0 ≤ q ∧ q ≤ 18446744073709551615 := by
    simp only [Lit.wf, Bool.and_eq_true, decide_eq_true_eq] at hq
    exact hq
  refine ⟨(A, q, B), ⟨⟨hA, hq'.1, hq'.2⟩, hB⟩, ?_⟩
  have e : cs = cs.take 16 ++ ((cs.drop 16).take 1 ++ (cs.drop 17)) := by
    have e1 : (cs.drop 16).take 1 ++ (cs.drop 17) = cs.drop 16 := by
      have := List.take_append_drop 1 (cs.drop 16)
      rwa [List.drop_drop] at this
    rw [e1, List.take_append_drop]
  have e3 : (cs.drop 17).take 16 = cs.drop 17 := List.take_of_length_le (by simp; omega)
  rw [e]
  simp only [callCells]
  rw [← e0, ← e2, ← e1]
  simp only [List.drop_zero, e3]

/-- A slice whose elements are rows. -/
theorem open_rows {α H : Type} {enc : TypeId × Value → H} {W : World} {r : Reach} {b0 base : Nat} {spare : Nat → Bool} {held : Bool} {v : Value} {d : DataW H} {p : List MemPlace} {t e : TypeId} {z : Nat} (ht : Try.prog.underlying t = some (.slice e)) (hz : Try.prog.cellsOf e = z) (f : α → List Value) (ok : α → Prop) (hlen : ∀ a, ok a → (f a).length = z) (one : ∀ a, ∀ v ∈ f a, v.oneCell' = true)
    (hop : ∀ {fuel cs} {x : DataW H × List MemPlace}, DataW.trod enc Try.prog W base spare held fuel e cs = some x → ∃ a, ok a ∧ cs = f a)
    (hv : Value.okWide Try.prog W r b0 t v) (h : DataW.Trod enc Try.prog W base spare held t v d p) :
    ∃ s n c, ∃ l : List α, v = .slice s n c ∧ (∀ a ∈ l, ok a) ∧ l.length = n ∧ n ≤ 9223372036854775807 ∧ RowsAt W s z (l.map f) ∧ ((s = none ∧ n = 0 ∧ c = 0) ∨ ∃ g o, s = some ⟨g, o, none⟩) := by
  obtain ⟨s, n, c, rfl⟩ := okWide_slice ht hv
  obtain ⟨fuel, hf⟩ := h
  rcases open_slice ht hf with ⟨h0, _⟩ | ⟨a, len, cap, m, k, D, Pl, hcs, hb, hl, hm, hmm, _, hx⟩
  · have h0' : Value.slice s n c = .slice none 0 0 := by simpa [Value.cells] using h0
    injection h0' with e1 e2 e3
    subst e1; subst e2; subst e3
    exact ⟨none, 0, 0, [], rfl, by simp, rfl, by omega, ⟨by simp, by simp, by simp, by simp⟩, Or.inl ⟨rfl, rfl, rfl⟩⟩
  · have h0' : Value.slice s n c = .slice (some a) len cap := by simpa [Value.cells] using hcs
    injection h0' with e1 e2 e3
    subst e1; subst e2; subst e3
    have hsp : a.spot = none ∧ (c : Int) ≤ 9223372036854775807 := by
      simp only [Value.okWide, ht, Cell.okWide, Cell.ok, World.has] at hv
      exact ⟨hv.2.2.2.1, hv.2.1⟩
    obtain ⟨b, off, spot⟩ := a
    obtain ⟨hs, hc⟩ := hsp
    simp only at hs
    subst hs
    have hmn : n ≤ m := by rw [hmm]; split <;> omega
    have key : ∀ i, i < n → ∃ a : α, ok a ∧ W.rangeAt b (off + i * z) (f a) := fun i hi => by
      obtain ⟨cs', h1, h2⟩ := hx i (by omega)
      obtain ⟨a, ha, rfl⟩ := hop h2
      refine ⟨a, ha, ?_⟩
      obtain ⟨_, hlen', hcell⟩ := World.cells?_some h1
      rw [hz] at hlen' hcell
      intro j v hj
      have hj' := (List.getElem?_eq_some_iff.1 hj).1
      have := hcell j (by omega)
      rw [add_plain, add_plain] at this
      rw [this]; exact hj
    have build : ∀ k, k ≤ n → ∃ l : List α, l.length = k ∧ (∀ a ∈ l, ok a) ∧ ∀ i x, l[i]? = some x → W.rangeAt b (off + i * z) (f x) := by
      intro k
      induction k with
      | zero => intro _; exact ⟨[], rfl, by simp, by simp⟩
      | succ k ih =>
        intro hk
        obtain ⟨l, hl1, hl2, hl3⟩ := ih (by omega)
        obtain ⟨a, ha, hr⟩ := key k (by omega)
        refine ⟨l ++ [a], by simp [hl1], ?_, ?_⟩
        · intro y hy
          rcases List.mem_append.1 hy with hy | hy
          · exact hl2 y hy
          · rw [List.mem_singleton.1 hy]; exact ha
        · intro i x hi
          by_cases h : i < l.length
          · rw [List.getElem?_append_left h] at hi; exact hl3 i x hi
          · have hi2 := (List.getElem?_eq_some_iff.1 hi).1
            have : i = k := by simp at hi2; omega
            subst this
            rw [List.getElem?_append_right (by omega), hl1, Nat.sub_self] at hi
            simp at hi; subst hi; exact hr
    obtain ⟨l, hl1, hl2, hl3⟩ := build n (Nat.le_refl _)
    refine ⟨_, n, c, l, rfl, hl2, hl1, by omega, ⟨fun _ => ⟨_, _, rfl⟩, ?_, ?_, ?_⟩, Or.inr ⟨_, _, rfl⟩⟩
    · intro g o hgo i x hi
      injection hgo with hgo
      injection hgo with e1 e2
      subst e1; subst e2
      rw [List.getElem?_map] at hi
      obtain ⟨y, hy, rfl⟩ := Option.map_eq_some_iff.1 hi
      exact hl3 i y hy
    · intro x hx
      obtain ⟨y, hy, rfl⟩ := List.mem_map.1 hx
      exact hlen y (hl2 y hy)
    · intro x hx
      obtain ⟨y, hy, rfl⟩ := List.mem_map.1 hx
      exact one y

theorem open_u64 {H : Type} {enc : TypeId × Value → H} {W : World} {r : Reach} {b0 base : Nat} {spare : Nat → Bool} {held : Bool} {v : Value} {d : DataW H} {p : List MemPlace} (hv : Value.okWide Try.prog W r b0 26 v) (h : DataW.Trod enc Try.prog W base spare held 26 v d p) : ∃ q, v = .int .u64 q ∧ 0 ≤ q ∧ q ≤ 18446744073709551615 := by
  obtain ⟨fuel, hf⟩ := h
  obtain ⟨q, e1, _, hq⟩ := DataW.trod_int Try.underlying26 hf
  obtain ⟨n, rfl⟩ := okWide_int Try.underlying26 hv
  have hq' : 0 ≤ q ∧ q ≤ 18446744073709551615 := by
    simp only [Lit.wf, Bool.and_eq_true, decide_eq_true_eq] at hq
    exact hq
  have : n = q := by simpa [Value.cells] using e1
  subst this
  exact ⟨_, rfl, hq'⟩
end Go.Proofs.Qxb6602021a
