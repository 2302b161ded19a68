/- What FnRangeHeadReadsBack's walk is told at each call, its numbers named. -/
import Derived.Test.Qxb6003417aRead2
import Derived.Test.Qxb6003417aClone
namespace Go.Proofs.Qxb6003417a
open Go.ChangeShapes Go.WideShapes Go.ChangeAt Go.RowKit
set_option linter.unusedVariables false
set_option linter.unusedSimpArgs false

theorem readFlag_at (g n c pos q : Nat) (f : Bool) (w : World) (hq : Hid (q = pos + 1)) (hp : pos < n) (hm : n ≤ 2097152) (hc : w.cell? ⟨g, pos, none⟩ = some (.int .u8 (flagB f))) :
    Calls Try.prog 24 #[.slice (some ⟨g, 0, none⟩) n c, .int .i64 pos] w fun e w' => e = .returned (.tuple #[.bool f, .int .i64 q]) ∧ w = w' := by
  rw [hq.out]; exact readFlag_any g n c pos f w hp hm hc

theorem readKey_at (g n c pos q N : Nat) (K : List Int) (w : World) (hKN : Hid (K.length = N)) (hq : Hid (q = pos + (uv K.length ++ K).length)) (hN : N ≤ 1048576) (hqn : q ≤ n) (hnc : n ≤ c) (hm : n ≤ 2097152)
    (hc : ∀ j u, (bcells (uv K.length ++ K))[j]? = some u → w.cell? ⟨g, pos + j, none⟩ = some u) :
    Calls Try.prog 25 #[.slice (some ⟨g, 0, none⟩) n c, .int .i64 pos] w fun e w' => ∃ s c', e = .returned (.tuple #[.slice s N c', .int .i64 q]) ∧ BL w s K ∧ w = w' := by
  have h := readKey_any g n c pos K w (by have := hKN.out; omega) (by have := hq.out; omega) hnc hm hc
  rw [← hq.out, hKN.out] at h
  exact h

theorem keySize_at (s : Option Addr) (n c ks : Nat) (w : World) (hks : Hid (ks = (uv n).length + n)) (hn : n ≤ 1048576) :
    Calls Try.prog 26 #[.slice s n c] w fun e w' => e = .returned (.int .i64 ks) ∧ Below w.heap.size w w' := by
  rw [hks.out]; exact keySize_any s n c w hn

/-- A clone: the bytes L at the head of a new block (or nil). -/
structure Cloned (w w' : World) (s : Option Addr) (L : List Int) : Prop where
  bl : BL w' s L
  head : ∀ x, s = some x → x = ⟨w.heap.size, 0, none⟩ ∧ w.heap.size < w'.heap.size ∧ w'.heap[w.heap.size]? = some (.cells (bcells L).toArray 5 (0, 0))
  below : Below w.heap.size w w'

theorem clone_at (s : Option Addr) (n c : Nat) (L : List Int) (w : World) (hL : Hid (L.length = n)) (hn : n ≤ 1048576) (h : BL w s L) :
    Calls Try.prog 11 #[.slice s n c] w fun e w' => ∃ s', e = .returned (.slice s' n n) ∧ Cloned w w' s' L := by
  cases s with
  | none =>
    have hL0 := h.none rfl
    have h0 : n = 0 := by have := hL.out; rw [hL0] at this; simpa using this.symm
    subst h0
    refine (clone_nil 0 c w).mono ?_
    rintro e w' ⟨rfl, rfl⟩
    exact ⟨none, rfl, h, (by intro x hx; cases hx), Below.refl _ _⟩
  | some x =>
    refine (clone_some x n c (bcells L) w hn (by rw [bcells_length]; exact hL.out) (fun j v hv => h.cell x rfl j v hv) (bcells_one L)).mono ?_
    rintro e w' ⟨rfl, rfl⟩
    refine ⟨_, rfl, ⟨(by intro h; cases h), ?_⟩, ?_, (Below.refl _ _).alloc (Nat.le_refl _) _⟩
    · intro y hy j u hu
      obtain rfl := Option.some.inj hy
      rw [Addr.add_lit, Nat.zero_add, World.cell?_alloc_at _ _ _ _ rfl]
      simpa using hu
    · intro y hy
      exact ⟨(Option.some.inj hy).symm, by simp, heap_alloc_new w _⟩

/-- The clone of the prefix is a slice of its own. -/
theorem Cloned.own {w w' : World} {s : Option Addr} {L : List Int} {B n : Nat} (h : Cloned w w' s L) (hn : L.length = n) (hB : B ≤ w.heap.size) : Own B w' (.slice s n n) L := by
  cases s with
  | none =>
    have := h.bl.none rfl
    subst this
    left
    simp at hn
    exact ⟨by rw [← hn], rfl⟩
  | some x =>
    obtain ⟨rfl, h1, h2⟩ := h.head x rfl
    exact .inr ⟨w.heap.size, n, _, by rw [hn], hB, h2, by omega, by simp [bcells_length, hn], List.take_of_length_le (by simp [bcells_length])⟩

theorem Own.below {B B' : Nat} {w w' : World} {v : Value} {xs : List Int} (h : Own B w v xs) (hb : Below B' w w') (hB : w.heap.size ≤ B') : Own B w' v xs := by
  rcases h with h | ⟨g, cap, cur, hv, hBg, hg, r⟩
  · exact .inl h
  · have := (Array.getElem?_eq_some_iff.1 hg).1
    exact .inr ⟨g, cap, cur, hv, hBg, by rw [hb.block g (by omega)]; exact hg, r⟩

/-- A later clone lies apart from the prefix. -/
theorem Cloned.key {w w' w2 : World} {s : Option Addr} {L : List Int} {v : Value} (h : Cloned w w' s L) (hb : Below w'.heap.size w' w2) (hv : ∀ g, v.ownBlock = some g → g < w.heap.size) : Key w2 v s L := by
  refine ⟨h.bl.later hb, fun x hx => ?_⟩
  obtain ⟨rfl, h1, _⟩ := h.head x hx
  have := hb.size
  exact ⟨w.heap.size, rfl, by omega, fun e => by have := hv _ e; omega⟩

theorem Own.lt {B : Nat} {w : World} {v : Value} {xs : List Int} (h : Own B w v xs) : ∀ g, v.ownBlock = some g → g < w.heap.size := by
  intro g hg
  rcases h with ⟨rfl, _⟩ | ⟨g', cap, cur, rfl, _, hh, _⟩
  · simp [Value.ownBlock] at hg
  · simp [Value.ownBlock] at hg
    subst hg
    exact (Array.getElem?_eq_some_iff.1 hh).1

/-- The prefix itself behind the appends. -/
theorem AppTo.prefixKept {B : Nat} {w w' : World} {v' : Value} {P ys : List Int} {s : Option Addr} {n c : Nat} (A : AppTo B w w' (.slice s n c) v' P ys) (h : BL w s P) (hs : ∀ x, s = some x → ∃ g, x = ⟨g, 0, none⟩) : BL w' s P := by
  refine h.kept fun a u ha hx => ?_
  obtain ⟨x, j, hx, hj, rfl⟩ := hx
  obtain ⟨g, rfl⟩ := hs x hx
  have hlt := World.block_lt_of_cell? _ _ ha
  rw [Addr.add_lit] at ha hlt ⊢
  rw [A.cell _ _ hlt (fun _ => by simpa using hj)]
  exact ha

/-- What is read at a place of a text that is known. -/
theorem seg {w : World} {g : Nat} {T A X C : List Int} (h : ∀ j u, (bcells T)[j]? = some u → w.cell? ⟨g, j, none⟩ = some u) (e : T = A ++ (X ++ C)) {pos : Nat} (hp : pos = A.length) : ∀ j u, (bcells X)[j]? = some u → w.cell? ⟨g, pos + j, none⟩ = some u := by
  intro j u hu
  refine h _ u ?_
  have hl := (List.getElem?_eq_some_iff.1 hu).1
  rw [e, bcells_append, bcells_append, List.getElem?_append_right (by rw [bcells_length]; omega), bcells_length, hp, Nat.add_sub_cancel_left, List.getElem?_append_left hl]
  exact hu

theorem seg1 {w : World} {g : Nat} {T A C : List Int} {y : Int} (h : ∀ j u, (bcells T)[j]? = some u → w.cell? ⟨g, j, none⟩ = some u) (e : T = A ++ (y :: C)) {pos : Nat} (hp : pos = A.length) : w.cell? ⟨g, pos, none⟩ = some (.int .u8 y) := by
  have := seg (X := [y]) h e hp 0 _ rfl
  simpa using this

end Go.Proofs.Qxb6003417a
