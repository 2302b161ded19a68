/- Calls as data; the clone, nil or not. -/
import Derived.Test.Qxb6602021aLaw5a
namespace Go.Proofs.Qxb6602021a
open Go.ChangeShapes Go.WideShapes Go.ChangeAt Go.RowKit
set_option linter.unusedVariables false
set_option linter.unusedSimpArgs false

/-- One call of a script: source, number, key. -/
abbrev CallD : Type := List Int × Int × List Int
def callCells (c : CallD) : List Value := bcells c.1 ++ ([Value.int .u64 c.2.1] ++ bcells c.2.2)
structure OkCall (c : CallD) : Prop where
  msg : IsKey c.1 c.2.1
  key : IsBytes 16 c.2.2

def noCall : CallD := (List.replicate 16 0, 0, List.replicate 16 0)
theorem noCall_ok : OkCall noCall := by
  have h : IsBytes 16 (List.replicate 16 0) := ⟨by simp, fun x hx => by rw [List.eq_of_mem_replicate hx]; omega⟩
  exact ⟨⟨h, by simp [noCall], by simp [noCall]⟩, h⟩

theorem callCells_length {c : CallD} (h : OkCall c) : (callCells c).length = 33 := by
  simp [callCells, bcells, h.msg.bytes.1, h.key.1]
theorem callCells_one (c : CallD) : ∀ v ∈ callCells c, v.oneCell' = true := by
  intro v hv
  simp only [callCells, List.mem_append, List.mem_singleton] at hv
  rcases hv with h | rfl | h
  · exact bcells_one _ v h
  · rfl
  · exact bcells_one _ v h

theorem rangeAt_append {w : World} {b o : Nat} {xs ys : List Value} (h : w.rangeAt b o (xs ++ ys)) : w.rangeAt b o xs ∧ w.rangeAt b (o + xs.length) ys := by
  constructor
  · intro j v hv
    have hj := (List.getElem?_eq_some_iff.1 hv).1
    exact h j v (by rw [List.getElem?_append_left hj]; exact hv)
  · intro j v hv
    have := h (xs.length + j) v (by rw [List.getElem?_append_right (by omega), Nat.add_sub_cancel_left]; exact hv)
    rw [Nat.add_assoc]; exact this

theorem okD {calls : List CallD} (h : ∀ c ∈ calls, OkCall c) (j : Nat) : OkCall (calls.getD j noCall) := by
  by_cases hj : j < calls.length
  · have : calls.getD j noCall = calls[j] := by simp [List.getD, hj]
    rw [this]; exact h _ (List.getElem_mem _)
  · have : calls.getD j noCall = noCall := by simp [List.getD, List.getElem?_eq_none (Nat.le_of_not_lt hj)]
    rw [this]; exact noCall_ok

theorem callsIn_of_rows {w : World} {G : Nat} {calls : List CallD} (hok : ∀ c ∈ calls, OkCall c) (h : RowsAt w (some ⟨G, 0, none⟩) 33 (calls.map callCells)) : CallsIn w G calls.length (fun j => (calls.getD j noCall).1) (fun j => (calls.getD j noCall).2.2) (fun j => (calls.getD j noCall).2.1) := by
  have hr : ∀ j, j < calls.length → w.rangeAt G (j * 33) (callCells (calls.getD j noCall)) := fun j hj => by
    have := h.cells G 0 rfl j (callCells (calls.getD j noCall)) (by simp [List.getD, hj])
    simpa using this
  have hl : ∀ j, (bcells (calls.getD j noCall).1).length = 16 := fun j => by rw [bcells_length]; exact (okD hok j).msg.bytes.1
  refine ⟨fun j hj => (rangeAt_append (hr j hj)).1, fun j hj => ?_, fun j hj => ?_, fun j => (okD hok j).msg, fun j => (okD hok j).key⟩
  · have := (rangeAt_append (rangeAt_append (hr j hj)).2).1 0 _ rfl
    rw [hl j] at this; exact this
  · have := (rangeAt_append (rangeAt_append (hr j hj)).2).2
    rw [hl j] at this; exact this

theorem clone_any (s : Option Addr) (n c : Nat) (cs : List (List Value)) (w : World) (hn : n ≤ 1048576) (hl : cs.length = n) (hR : RowsAt w s 33 cs) (hs : (s = none ∧ n = 0 ∧ c = 0) ∨ ∃ g o, s = some ⟨g, o, none⟩) :
    Calls Try.prog 12 #[.slice s n c] w fun e w' => ∃ s', e = .returned (.slice s' n n) ∧ RowsAt w' s' 33 cs ∧ (∀ g, s' = some ⟨g, 0, none⟩ → g < w'.heap.size) ∧ (0 < n → ∃ g, s' = some ⟨g, 0, none⟩) ∧ Below w.heap.size w w' := by
  rcases hs with ⟨rfl, rfl, rfl⟩ | ⟨g, o, rfl⟩
  · refine (cloneCalls_nil w).mono ?_
    rintro e w' ⟨rfl, rfl⟩
    exact ⟨none, rfl, hR, fun ad h => (by cases h), fun h => by omega, Below.refl _ _⟩
  · refine (cloneCalls_some g o n c cs w hn hl hR).mono ?_
    rintro e w' ⟨rfl, hr, hsz, B⟩
    exact ⟨_, rfl, hr, fun g h => (by injection h with h; injection h with h; omega), fun _ => ⟨_, rfl⟩, B⟩
end Go.Proofs.Qxb6602021a
