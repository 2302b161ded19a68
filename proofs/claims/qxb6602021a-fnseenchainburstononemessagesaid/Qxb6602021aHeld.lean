/- The array of the keys held, in a block of its own; the state of the burst's law. -/
import Derived.Test.Qxb6602021aHold
namespace Go.Proofs.Qxb6602021a
open Go.ChangeShapes Go.WideShapes Go.ChangeAt Go.RowKit
set_option linter.unusedVariables false
set_option linter.unusedSimpArgs false

theorem rangeAt_concat {w : World} {b o : Nat} {xs ys : List Value} (h : w.rangeAt b o xs) (k : w.rangeAt b (o + xs.length) ys) : w.rangeAt b o (xs ++ ys) := fun j v hv => by
  by_cases hj : j < xs.length
  · rw [List.getElem?_append_left hj] at hv; exact h j v hv
  · rw [List.getElem?_append_right (by omega)] at hv
    have := k (j - xs.length) v hv
    rwa [show o + xs.length + (j - xs.length) = o + j by omega] at this

theorem rangeAt_of_rows {w : World} {b : Nat} {L : List (List Int)} : ∀ {o : Nat}, (∀ x ∈ L, IsBytes 16 x) → (∀ i x, L[i]? = some x → w.rangeAt b (o + i * 16) (bcells x)) → w.rangeAt b o (flat L) := by
  induction L with
  | nil => intro o _ _ j v hv; simp [flat] at hv
  | cons x L ih =>
    intro o hi h
    have e : flat (x :: L) = bcells x ++ flat L := by simp [flat]
    rw [e]
    have hx := (hi x (by simp)).1
    refine rangeAt_concat (by simpa using h 0 x rfl) ?_
    rw [bcells_length, hx]
    refine ih (fun y hy => hi y (by simp [hy])) fun i y hy => ?_
    have := h (i + 1) y (by simpa using hy)
    rwa [show o + (i + 1) * 16 = o + 16 + i * 16 by omega] at this

theorem setCells_other (b : Nat) : ∀ (vs : List Value) (w : World) (o k : Nat), k ≠ b → (w.setCells b o vs).heap[k]? = w.heap[k]?
  | [], w, o, k, h => rfl
  | v :: vs, w, o, k, h => by
    rw [World.setCells, setCells_other b vs _ _ k h]
    exact Below.heap_setCell _ _ _ _ h
theorem setCells_same {b : Nat} {t : TypeId} {z : Nat × Nat} : ∀ (vs : List Value) (w : World) (o : Nat) (cs : Array Value), w.heap[b]? = some (.cells cs t z) → ∃ cs', (w.setCells b o vs).heap[b]? = some (.cells cs' t z) ∧ cs'.size = cs.size
  | [], w, o, cs, h => ⟨cs, h, rfl⟩
  | v :: vs, w, o, cs, h => by
    rw [World.setCells]
    obtain ⟨cs', h1, h2⟩ := setCells_same vs (w.setCell ⟨b, o, none⟩ v) (o + 1) _ (heap_setCell_cells h v)
    exact ⟨cs', h1, by simpa using h2⟩
theorem setCells_size (b : Nat) : ∀ (vs : List Value) (w : World) (o : Nat), (w.setCells b o vs).heap.size = w.heap.size
  | [], w, o => rfl
  | v :: vs, w, o => by
    rw [World.setCells, setCells_size b vs]
    simp [World.setCell]

/-- Block H is an array of four identities. -/
structure Held (w : World) (H : Nat) (Hs : List (List Int)) : Prop where
  len : Hs.length = 4
  ids : ∀ x ∈ Hs, IsBytes 16 x
  rows : ∀ i x, Hs[i]? = some x → w.rangeAt H (i * 16) (bcells x)
  row : ∃ cs, w.heap[H]? = some (.cells cs 50 (0, 0)) ∧ cs.size = 64

theorem Held.block {w w' : World} {H : Nat} {Hs : List (List Int)} (h : Held w H Hs) (hb : w'.heap[H]? = w.heap[H]?) : Held w' H Hs := by
  obtain ⟨cs, h1, h2⟩ := h.row
  exact ⟨h.len, h.ids, fun i x hx => fun j v hv => by rw [World.cell?_of_block (w := w) (w' := w') (a := ⟨H, i * 16 + j, none⟩) hb]; exact h.rows i x hx j v hv, cs, by rw [hb]; exact h1, h2⟩
theorem Held.lt {w : World} {H : Nat} {Hs : List (List Int)} (h : Held w H Hs) : H < w.heap.size := by
  obtain ⟨cs, h1, h2⟩ := h.row
  exact (Array.getElem?_eq_some_iff.1 h1).1
theorem Held.later {w w' : World} {H : Nat} {Hs : List (List Int)} (h : Held w H Hs) (hb : Below w.heap.size w w') : Held w' H Hs :=
  h.block (hb.block H h.lt)
theorem Held.all {w : World} {H : Nat} {Hs : List (List Int)} (h : Held w H Hs) : w.rangeAt H 0 (flat Hs) :=
  rangeAt_of_rows h.ids fun i x hx => by rw [Nat.zero_add]; exact h.rows i x hx
theorem Held.there {w : World} {H : Nat} {Hs : List (List Int)} (h : Held w H Hs) {i : Nat} (hi : i < 4) : w.there H (i * 16) 16 := fun j hj => by
  obtain ⟨cs, h1, h2⟩ := h.row
  refine ⟨?_, frozen_row h1 _⟩
  rw [cell_of_row _ _ _ _ _ _ h1]
  have : i * 16 + j < cs.size := by omega
  simp [this]
theorem Held.set {w : World} {H : Nat} {Hs : List (List Int)} (h : Held w H Hs) {i : Nat} (hi : i < 4) {X : List Int} (hX : IsBytes 16 X) : Held (w.setCells H (i * 16) (bcells X)) H (Hs.set i X) := by
  obtain ⟨cs, h1, h2⟩ := h.row
  obtain ⟨cs', h3, h4⟩ := setCells_same (bcells X) w (i * 16) cs h1
  have hlX : (bcells X).length = 16 := by rw [bcells_length]; exact hX.1
  refine ⟨by simpa using h.len, fun x hx => ?_, fun j x hx => ?_, cs', h3, by omega⟩
  · rcases List.mem_or_eq_of_mem_set hx with hx | rfl
    · exact h.ids x hx
    · exact hX
  · rw [List.getElem?_set] at hx
    by_cases e : i = j
    · subst e
      rw [if_pos rfl] at hx
      split at hx
      · injection hx with hx
        subst hx
        exact World.rangeAt_setCells_same _ _ _ _ (by rw [hlX]; exact h.there hi)
      · cases hx
    · rw [if_neg e] at hx
      have hx16 : (bcells x).length = 16 := by rw [bcells_length]; exact (h.ids x (List.mem_of_getElem? hx)).1
      refine World.rangeAt_setCells_apart (h.rows j x hx) _ _ _ (.inr ?_)
      rw [hx16, hlX]
      omega

/-- Zeros. -/
def z16 : List Int := List.replicate 16 0
theorem z16_ok : IsBytes 16 z16 := ⟨by simp [z16], fun x hx => by rw [List.eq_of_mem_replicate hx]; omega⟩

/-- The seen beside a block that is no part of it. -/
theorem Seen.beside {F : Nat → Prop} {w w' : World} {A n H : Nat} {R O : Rec} (h : Seen F w A R O n) {cs : Array Value} {z : Nat × Nat} (hH : w.heap[H]? = some (.cells cs 50 z)) (hs : ∀ k, ¬ k = H → w'.heap[k]? = w.heap[k]?) (hsz : w.heap.size ≤ w'.heap.size) : Seen F w' A R O n := by
  obtain ⟨r, o, no, hA, hr, ho, hF⟩ := h.ex
  have hs' : ∀ k, k < w.heap.size → ¬ k = H → w'.heap[k]? = w.heap[k]? := fun k _ hk => hs k hk
  have hX : ∀ (g : Nat) (cs : Array Value) (z : Nat × Nat), g = H → w.heap[g]? ≠ some (Obj.cells cs 23 z) := fun g cs z e => by subst e; rw [hH]; simp
  have hb : ∀ (r : Option Nat) (m : Rec) (n : Nat), MapAt w r m n → ∀ b, r = some b → ¬ b = H := fun r m n hm b e eb => by
    subst e
    obtain ⟨es, clock, hg, _⟩ := IsMap.ex hm
    rw [eb, hH] at hg; cases hg
  have hAH : ¬ A = H := fun e => by rw [e, hH] at hA; simp at hA
  exact ⟨⟨r, o, no, by rw [hs A hAH]; exact hA, hr.keep (· = H) hs' (hb r R n hr) hX, ho.keep (· = H) hs' (hb o O no ho) hX, hF⟩, h.fA, fun k hk => Nat.lt_of_lt_of_le (h.lt k hk) hsz⟩

/-- While the first calls run: w the world ahead of the seen, which is block w.heap.size. -/
structure S1 (w wr : World) (R O : Rec) (ne : Nat) : Prop where
  seen : Seen (fun b => b < w.heap.size) wr w.heap.size R O ne
  gr : Good R
  go : Good O
  below : Below w.heap.size w wr

theorem s1_start (w : World) : S1 w (w.alloc (.cells #[.map none, .map none] 58)) Rec.nil Rec.nil 0 :=
  ⟨⟨⟨none, none, 0, heap_alloc_new w _, ⟨rfl, rfl⟩, ⟨rfl, rfl⟩, fun b h => by cases h⟩, fun h => by omega, fun k h => by simp; omega⟩, good_nil, good_nil, (Below.refl _ _).alloc (Nat.le_refl _) _⟩

theorem S1.step {w wr w' : World} {R O R' O' : Rec} {ne ne' : Nat} {S : List Int} {q : Int} {X : List Int} (h : S1 w wr R O ne) (hs : Seen (fun b => b < w.heap.size) w' w.heap.size R' O' ne') (hK : Kept (fun b => b < w.heap.size) wr w') (hc : ChainTo R O ne S q X R' O' ne') : S1 w w' R' O' ne' := by
  obtain ⟨h1, h2, _⟩ := hc.good h.gr h.go
  have hb := h.below
  exact ⟨hs, h1, h2, ⟨hK.os.trans hb.os, hK.tape.trans hb.tape, hK.output.trans hb.output, Nat.le_trans hb.size hK.size, fun b hbl => (hK.block b hbl).trans (hb.block b hbl)⟩⟩

/-- While the burst runs: the keys held lie in block H, as many as M. -/
structure S3 (w : World) (H : Nat) (S : List Int) (q : Int) (wr : World) (R O : Rec) (ne : Nat) (Hs M : List (List Int)) : Prop where
  seen : Seen (fun b => b < w.heap.size ∨ b = H) wr w.heap.size R O ne
  gr : Good R
  go : Good O
  below : Below w.heap.size w wr
  held : Held wr H Hs
  look : (look R O S q).getD [] = M
  take : Hs.take M.length = M
  lt : w.heap.size < H

theorem S3.le {w : World} {H : Nat} {S : List Int} {q : Int} {wr : World} {R O : Rec} {ne : Nat} {Hs M : List (List Int)} (h : S3 w H S q wr R O ne Hs M) : M.length ≤ 4 := by
  have := (h.gr.look h.go S q).2.1
  rwa [h.look] at this
theorem S3.isSome {w : World} {H : Nat} {S : List Int} {q : Int} {wr : World} {R O : Rec} {ne : Nat} {Hs M : List (List Int)} (h : S3 w H S q wr R O ne Hs M) : (Qxb6602021a.look R O S q).isSome = decide (0 < M.length) := by
  have := (h.gr.look h.go S q).2.2
  rwa [h.look] at this

/-- The seen was asked. -/
theorem S3.ask {w : World} {H : Nat} {S : List Int} {q : Int} {wr w' : World} {R O R' O' : Rec} {ne ne' : Nat} {Hs M : List (List Int)} {X : List Int} (h : S3 w H S q wr R O ne Hs M) (hs : Seen (fun b => b < w.heap.size ∨ b = H) w' w.heap.size R' O' ne') (hK : Kept (fun b => b < w.heap.size ∨ b = H) wr w') (hc : ChainTo R O ne S q X R' O' ne') :
    (acc M X = false → S3 w H S q w' R' O' ne' Hs M) ∧ (acc M X = true → IsBytes 16 X → S3 w H S q (w'.setCells H (M.length * 16) (bcells X)) R' O' ne' (Hs.set M.length X) (M ++ [X])) ∧ Held w' H Hs ∧ Below w.heap.size w w' := by
  obtain ⟨h1, h2, h3⟩ := hc.good h.gr h.go
  have hb := h.below
  have hb' : Below w.heap.size w w' := ⟨hK.os.trans hb.os, hK.tape.trans hb.tape, hK.output.trans hb.output, Nat.le_trans hb.size hK.size, fun b hbl => (hK.block b (.inl hbl)).trans (hb.block b hbl)⟩
  have hH : Held w' H Hs := h.held.block (hK.block H (.inr rfl))
  rw [h.look] at h3
  unfold grow at h3
  have hlt := h.lt
  refine ⟨fun ha => ?_, fun ha hX => ?_, hH, hb'⟩
  · rw [ha] at h3
    exact ⟨hs, h1, h2, hb', hH, by simpa using h3, h.take, h.lt⟩
  · rw [ha] at h3
    have hM4 : M.length < 4 := by
      have : ¬ X ∈ M ∧ M.length < 4 := by simpa [acc] using ha
      exact this.2
    obtain ⟨cs, hc1, _⟩ := hH.row
    refine ⟨hs.beside hc1 (fun k hk => setCells_other H _ _ _ k hk) (by rw [setCells_size]; exact Nat.le_refl _), h1, h2, below_setCells hb' (by omega) _ _, hH.set hM4 hX, by simpa using h3, ?_, h.lt⟩
    have hl := h.held.len
    have ht := h.take
    apply List.ext_getElem?
    intro i
    rw [List.getElem?_take, List.getElem?_set]
    simp only [List.length_append, List.length_singleton]
    by_cases hi : i < M.length
    · rw [if_pos (by omega), if_neg (by omega), List.getElem?_append_left hi]
      have e : (Hs.take M.length)[i]? = M[i]? := by rw [ht]
      rw [List.getElem?_take, if_pos hi] at e
      exact e
    · by_cases hi2 : i = M.length
      · subst hi2
        rw [if_pos (by omega), if_pos rfl, if_pos (by omega)]
        simp
      · rw [if_neg (by omega), List.getElem?_eq_none (by simp; omega)]

/-- What is held after i of the keys L were taken over. -/
def heldOf (L : List (List Int)) (i : Nat) : List (List Int) := L.take i ++ List.replicate (4 - i) z16

theorem heldOf_take (L : List (List Int)) {i : Nat} (hi : i ≤ L.length) : (heldOf L i).take i = L.take i := by
  have h : (L.take i).length = i := by simp; omega
  unfold heldOf
  rw [List.take_append_of_le_length (by omega), List.take_of_length_le (by omega)]

theorem heldOf_set (L : List (List Int)) (h4 : L.length ≤ 4) {i : Nat} {x : List Int} (hx : L[i]? = some x) : (heldOf L i).set i x = heldOf L (i + 1) := by
  have hi := (List.getElem?_eq_some_iff.1 hx).1
  have hlen : (L.take i).length = i := by simp; omega
  unfold heldOf
  apply List.ext_getElem?
  intro j
  rw [List.getElem?_set]
  have e : (L.take i ++ List.replicate (4 - i) z16).length = 4 := by simp; omega
  have hlen' : (L.take (i + 1)).length = i + 1 := by simp; omega
  rw [e]
  by_cases hj : i = j
  · subst hj
    rw [if_pos rfl, if_pos (by omega), List.getElem?_append_left (by omega), List.getElem?_take, if_pos (by omega), hx]
  · rw [if_neg hj]
    by_cases hj2 : j < i
    · rw [List.getElem?_append_left (by omega), List.getElem?_append_left (by omega), List.getElem?_take, List.getElem?_take, if_pos hj2, if_pos (by omega)]
    · rw [List.getElem?_append_right (by omega), List.getElem?_append_right (by omega), hlen, hlen', List.getElem?_replicate, List.getElem?_replicate]
      by_cases hj4 : j < 4
      · rw [if_pos (by omega), if_pos (by omega)]
      · rw [if_neg (by omega), if_neg (by omega)]

theorem held_start (w : World) : Held (w.alloc (.cells (flat (List.replicate 4 z16)).toArray 50)) w.heap.size (List.replicate 4 z16) := by
  have hi : ∀ x ∈ List.replicate 4 z16, IsBytes 16 x := fun x hx => by rw [List.eq_of_mem_replicate hx]; exact z16_ok
  exact ⟨by simp, hi, fun i x hx => rangeAt_flat (rangeAt_new w _ 50) hi hx, _, heap_alloc_new w _, by rw [List.size_toArray, flat_length hi]; simp⟩

theorem nodup_take {L : List (List Int)} (h : L.Nodup) {i : Nat} {x : List Int} (hx : L[i]? = some x) : ¬ x ∈ L.take i := fun hm => by
  obtain ⟨j, hj⟩ := List.mem_iff_getElem?.1 hm
  rw [List.getElem?_take] at hj
  split at hj
  · rename_i hji
    have hi := (List.getElem?_eq_some_iff.1 hx).1
    have h1 := (List.getElem?_eq_some_iff.1 hj).2
    have h2 := (List.getElem?_eq_some_iff.1 hx).2
    exact absurd (h1.trans h2.symm) ((List.pairwise_iff_getElem.1 h) j i (by omega) hi hji)
  · cases hj

/-- A row put into a new block. -/
theorem row_new (wr : World) {x : List Int} (hx : IsBytes 16 x) (cs : Array Value) (hcs : cs.size = 16) (t : TypeId) :
    (wr.alloc (.cells cs t)).there wr.heap.size 0 (bcells x).toArray.size ∧ ((wr.alloc (.cells cs t)).setCells wr.heap.size 0 (bcells x)).rangeAt wr.heap.size 0 (bcells x) ∧ Below wr.heap.size wr ((wr.alloc (.cells cs t)).setCells wr.heap.size 0 (bcells x)) := by
  have hl : (bcells x).length = 16 := by rw [bcells_length]; exact hx.1
  have h := there_new wr cs t
  rw [hcs] at h
  refine ⟨by simpa [hl] using h, World.rangeAt_setCells_same _ _ _ _ (by rw [hl]; exact h), below_setCells ((Below.refl _ _).alloc (Nat.le_refl _) _) (Nat.le_refl _) _ _⟩

theorem S3.later {w : World} {H : Nat} {S : List Int} {q : Int} {wr w' : World} {R O : Rec} {ne : Nat} {Hs M : List (List Int)} (h : S3 w H S q wr R O ne Hs M) (hb : Below wr.heap.size wr w') : S3 w H S q w' R O ne Hs M :=
  ⟨h.seen.later hb, h.gr, h.go, h.below.trans (hb.mono h.below.size), h.held.later hb, h.look, h.take, h.lt⟩

theorem S1.to3 {w wo w7 wr : World} {R O : Rec} {ne : Nat} {S : List Int} {q : Int} {L : List (List Int)} (h : S1 w wo R O ne) (b7 : Below wo.heap.size wo w7) (hb : Below w7.heap.size w7 wr) (hH : Held wr w7.heap.size (heldOf L L.length)) (hL : L = (look R O S q).getD []) : S3 w w7.heap.size S q wr R O ne (heldOf L L.length) L := by
  have h1 := h.seen.lt_A
  have h2 := b7.size
  have h3 := hH.lt
  refine ⟨(h.seen.later b7).also hb (fun k hk => ?_) (fun k hk => ?_), h.gr, h.go, ?_, hH, hL.symm, ?_, by omega⟩
  · rcases hk with hk | hk
    · exact .inl hk
    · exact .inr (by omega)
  · rcases hk with hk | hk <;> omega
  · have b1 := h.below
    have b2 := b1.trans (b7.mono b1.size)
    exact b2.trans (hb.mono b2.size)
  · rw [heldOf_take L (Nat.le_refl _), List.take_of_length_le (Nat.le_refl _)]
end Go.Proofs.Qxb6602021a
