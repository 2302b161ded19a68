/- The plain law of the script; the seen beside a store. -/
import Derived.Test.Qxb6602021aRec
namespace Go.Proofs.Qxb6602021a
open Go.ChangeShapes Go.WideShapes Go.ChangeAt Go.RowKit
set_option linter.unusedVariables false
set_option linter.unusedSimpArgs false

theorem keysOf_congr {src key : Nat → List Int} {seq : Nat → Int} {fl fl' : Nat → Bool} {S : List Int} {q : Int} {i : Nat} (h : ∀ j, j < i → fl j = fl' j) : keysOf src key seq fl S q i = keysOf src key seq fl' S q i := by
  induction i with
  | zero => rfl
  | succ i ih => rw [keysOf, keysOf, ih (fun j hj => h j (by omega)), h i (by omega)]

/-- R records exactly what the history says. -/
def Hist (R : Rec) (src key : Nat → List Int) (seq : Nat → Int) (fl : Nat → Bool) (i : Nat) : Prop :=
  ∀ S q, R S q = if keysOf src key seq fl S q i = [] then none else some (keysOf src key seq fl S q i)

theorem Hist.getD {R : Rec} {src key : Nat → List Int} {seq : Nat → Int} {fl : Nat → Bool} {i : Nat} (h : Hist R src key seq fl i) (S : List Int) (q : Int) : (look R Rec.nil S q).getD [] = keysOf src key seq fl S q i := by
  unfold look
  rw [h S q]
  split
  · rename_i L hL
    split at hL
    · cases hL
    · injection hL with hL; rw [← hL]; rfl
  · rename_i hL
    split at hL
    · rename_i e; rw [e]; rfl
    · cases hL

theorem Hist.isSome {R : Rec} {src key : Nat → List Int} {seq : Nat → Int} {fl : Nat → Bool} {i : Nat} (h : Hist R src key seq fl i) (S : List Int) (q : Int) : (look R Rec.nil S q).isSome = decide (0 < (keysOf src key seq fl S q i).length) := by
  unfold look
  rw [h S q]
  cases hk : keysOf src key seq fl S q i with
  | nil => simp [Rec.nil]
  | cons x L => simp

/-- One call. -/
theorem Hist.step {R R' O' : Rec} {src key : Nat → List Int} {seq : Nat → Int} {fl : Nat → Bool} {i ne ne' : Nat} (h : Hist R src key seq fl i) (hne : ne < 8192) (hc : ChainTo R Rec.nil ne (src i) (seq i) (key i) R' O' ne') :
    Hist R' src key seq (fun j => if j = i then acc (keysOf src key seq fl (src i) (seq i) i) (key i) else fl j) (i + 1) ∧ O' = Rec.nil ∧ ne' ≤ ne + 1 := by
  have hg := h.getD (src i) (seq i)
  have hcg : ∀ S q, keysOf src key seq (fun j => if j = i then acc (keysOf src key seq fl (src i) (seq i) i) (key i) else fl j) S q i = keysOf src key seq fl S q i := fun S q => keysOf_congr (fun j hj => by simp [Nat.ne_of_lt hj])
  cases ha : acc (keysOf src key seq fl (src i) (seq i) i) (key i) with
  | false =>
    obtain ⟨rfl, rfl, rfl⟩ := hc.no (by rw [hg]; exact ha)
    rw [ha] at hcg
    refine ⟨fun S q => ?_, rfl, by omega⟩
    rw [keysOf, hcg]
    simp only [if_true, Bool.false_eq_true, false_and, if_false]
    exact h S q
  | true =>
    have hp := (hc.yes (by rw [hg]; exact ha)).ex
    rw [hg] at hp
    rw [ha] at hcg
    rcases hp with ⟨rfl, rfl, hn, _⟩ | ⟨_, h8, _⟩
    · refine ⟨fun S q => ?_, rfl, hn⟩
      rw [keysOf, hcg]
      simp only [if_true, true_and]
      by_cases hm : S = src i ∧ q = seq i
      · obtain ⟨rfl, rfl⟩ := hm
        rw [Rec.put_same]
        simp
      · have hm' : ¬ (src i = S ∧ seq i = q) := fun hx => hm ⟨hx.1.symm, hx.2.symm⟩
        rw [Rec.put_other _ _ hm]
        simp only [hm', if_false]
        exact h S q
    · omega

/-- A cell of a block that is no part of the seen. -/
theorem Seen.setCell {F : Nat → Prop} {w : World} {A n H : Nat} {R O : Rec} (h : Seen F w A R O n) {cs : Array Value} {z : Nat × Nat} (hH : w.heap[H]? = some (.cells cs 4 z)) (i : Nat) (v : Value) : Seen F (w.setCell ⟨H, i, none⟩ v) A R O n := by
  obtain ⟨r, o, no, hA, hr, ho, hF⟩ := h.ex
  have hs : ∀ k, k < w.heap.size → ¬ k = H → (w.setCell ⟨H, i, none⟩ v).heap[k]? = w.heap[k]? := fun k _ hk => Below.heap_setCell _ _ _ _ hk
  have hX : ∀ (g : Nat) (cs : Array Value) (z : Nat × Nat), g = H → w.heap[g]? ≠ some (Obj.cells cs 23 z) := fun g cs z e => by subst e; rw [hH]; simp
  have hb : ∀ (r : Option Nat) (m : Rec) (n : Nat), MapAt w r m n → ∀ b, r = some b → ¬ b = H := fun r m n hm b e eb => by
    subst e
    obtain ⟨es, clock, hg, _⟩ := IsMap.ex hm
    rw [eb, hH] at hg; cases hg
  have hAH : ¬ A = H := fun e => by rw [e, hH] at hA; simp at hA
  exact ⟨⟨r, o, no, by rw [hs A h.lt_A hAH]; exact hA, hr.keep (· = H) hs (hb r R n hr) hX, ho.keep (· = H) hs (hb o O no ho) hX, hF⟩, h.fA, fun k hk => by simpa [World.setCell] using h.lt k hk⟩
end Go.Proofs.Qxb6602021a
