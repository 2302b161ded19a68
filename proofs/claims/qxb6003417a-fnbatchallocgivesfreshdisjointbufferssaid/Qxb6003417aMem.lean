/- The memory of FnBatchAllocGivesFreshDisjointBuffers, plain: what one alloc and one fill do to the buffers that were handed out. -/
import Derived.Test.Qxb6003417aRegion
namespace Go.Proofs.Qxb6003417a
open Go.ChangeShapes Go.WideShapes Go.ChangeAt Go.RowKit
set_option linter.unusedVariables false
set_option linter.unusedSimpArgs false

/-- The Batch in block Bb and the buffers handed out so far (address, length, the byte that each cell holds), all in blocks from lo on. -/
structure Mem (w : World) (lo Bb lb : Nat) (af : Option Addr) (lf : Nat) (bufs : List (Option Addr × Nat × Int)) : Prop where
  batch : BatchAt w Bb lb af lf
  hB : Bb < lo
  los : lo ≤ w.heap.size
  flo : ∀ b o, InR af lf b o → lo ≤ b
  buf : ∀ t ∈ bufs, Bytes w t.1 t.2.1 t.2.2
  blo : ∀ t ∈ bufs, ∀ b o, InR t.1 t.2.1 b o → lo ≤ b ∧ ¬ InR af lf b o

/-- Behind an alloc: the old buffers stand; the new one lies apart from them. -/
structure Fresh (w : World) (lo Bb n : Nat) (ax : Option Addr) (lb : Nat) (af : Option Addr) (lf : Nat) (bufs : List (Option Addr × Nat × Int)) : Prop where
  mem : Mem w lo Bb lb af lf bufs
  zeros : Bytes w ax n 0
  apart : ∀ b o, InR ax n b o → lo ≤ b ∧ ¬ InR af lf b o
  disj : ∀ t ∈ bufs, ∀ b o, InR t.1 t.2.1 b o → ¬ InR ax n b o

theorem mem_given {w w' : World} {lo Bb lb n : Nat} {af : Option Addr} {lf : Nat} {bufs : List (Option Addr × Nat × Int)} {ax : Option Addr} {lb' : Nat} {af' : Option Addr} {lf' : Nat}
    (m : Mem w lo Bb lb af lf bufs) (g : Given w w' Bb n af lf ax lb' af' lf') : Fresh w' lo Bb n ax lb' af' lf' bufs := by
  have hsz : w.heap.size ≤ w'.heap.size := g.below.size
  have hlo := m.los
  have hBlo := m.hB
  refine ⟨⟨g.batch, m.hB, Nat.le_trans m.los hsz, ?_, ?_, ?_⟩, g.zeros, ?_, ?_⟩
  · intro b o hi
    rcases g.old' b o hi with h | h
    · exact m.flo b o h
    · omega
  · intro t ht
    have hb := m.buf t ht
    refine ⟨hb.addr, ?_, ?_⟩
    · intro b o hi
      have h1 := (m.blo t ht b o hi).1
      rw [g.cell b o (InR.lt hb hi) (by omega)]
      exact hb.cell b o hi
    · intro b o hi
      rw [g.frozen b o (InR.lt hb hi)]
      exact hb.free b o hi
  · intro t ht b o hi
    refine ⟨(m.blo t ht b o hi).1, fun hi' => ?_⟩
    rcases g.old' b o hi' with h | h
    · exact (m.blo t ht b o hi).2 h
    · have := InR.lt (m.buf t ht) hi
      omega
  · intro b o hi
    refine ⟨?_, g.disj b o hi⟩
    rcases g.old b o hi with h | h
    · exact m.flo b o h
    · omega
  · intro t ht b o hi hi'
    rcases g.old b o hi' with h | h
    · exact (m.blo t ht b o hi).2 h
    · have := InR.lt (m.buf t ht) hi
      omega

/-- While the new buffer is filled with x: j cells are done. -/
structure Filling (w w' : World) (ax : Option Addr) (n j : Nat) (x : Int) : Prop where
  cell : ∀ b o, ¬ InR ax n b o → w'.cell? ⟨b, o, none⟩ = w.cell? ⟨b, o, none⟩
  done : ∀ g s, ax = some ⟨g, s, none⟩ → ∀ t, t < j → w'.cell? ⟨g, s + t, none⟩ = some (.int .u8 x)
  todo : ∀ g s, ax = some ⟨g, s, none⟩ → ∀ t, j ≤ t → t < n → w'.cell? ⟨g, s + t, none⟩ = some (.int .u8 0)
  frozen : ∀ b o, w'.frozen? ⟨b, o, none⟩ = w.frozen? ⟨b, o, none⟩
  size : w'.heap.size = w.heap.size

theorem filling_start {w : World} {ax : Option Addr} {n : Nat} (x : Int) (h : Bytes w ax n 0) : Filling w w ax n 0 x := by
  refine ⟨fun _ _ _ => rfl, fun _ _ _ t ht => by omega, ?_, fun _ _ => rfl, rfl⟩
  intro g s hs t h1 h2
  exact h.cell g (s + t) ⟨s, hs, by omega, by omega⟩

theorem filling_step {w w' : World} {g s n j : Nat} {x : Int} (h : Filling w w' (some ⟨g, s, none⟩) n j x) (hj : j < n) :
    Filling w (w'.setCell ⟨g, s + j, none⟩ (.int .u8 x)) (some ⟨g, s, none⟩) n (j + 1) x := by
  refine ⟨?_, ?_, ?_, ?_, ?_⟩
  · intro b o hn
    rw [World.cell?_setCell_other]
    · exact h.cell b o hn
    · intro e
      injection e with e1 e2
      exact hn ⟨s, by rw [e1], by omega, by omega⟩
  · intro g' s' e t ht
    obtain ⟨rfl, rfl⟩ : g = g' ∧ s = s' := by simpa using e
    by_cases htj : t = j
    · subst htj
      exact World.cell?_setCell_same _ _ _ (h.todo g s rfl t (Nat.le_refl _) hj)
    · rw [World.cell?_setCell_other]
      · exact h.done g s rfl t (by omega)
      · intro e
        injection e with e1 e2
        omega
  · intro g' s' e t ht htn
    obtain ⟨rfl, rfl⟩ : g = g' ∧ s = s' := by simpa using e
    rw [World.cell?_setCell_other]
    · exact h.todo g s rfl t (by omega) htn
    · intro e
      injection e with e1 e2
      omega
  · intro b o
    rw [World.frozen?_setCell]; exact h.frozen b o
  · rw [World.size_setCell]; exact h.size

theorem mem_filled {w w' : World} {lo Bb n lb : Nat} {ax af : Option Addr} {lf : Nat} {bufs : List (Option Addr × Nat × Int)} {x : Int}
    (f : Fresh w lo Bb n ax lb af lf bufs) (h : Filling w w' ax n n x) : Mem w' lo Bb lb af lf (bufs ++ [(ax, n, x)]) := by
  have m := f.mem
  have hB := m.hB
  have hBn : ∀ o, ¬ InR ax n Bb o := fun o hi => by have := (f.apart Bb o hi).1; omega
  refine ⟨⟨?_, m.batch.lb, ?_, ?_, ?_, ⟨m.batch.zeros.addr, ?_, ?_⟩, m.batch.apart⟩, m.hB, by rw [h.size]; exact m.los, m.flo, ?_, ?_⟩
  · obtain ⟨ab, cb, hk⟩ := m.batch.blk
    exact ⟨ab, cb, by rw [h.cell _ _ (hBn 1)]; exact hk⟩
  · rw [h.cell _ _ (hBn 2)]; exact m.batch.cell
  · rw [h.frozen]; exact m.batch.f1
  · rw [h.frozen]; exact m.batch.f2
  · intro b o hi
    rw [h.cell b o (fun hi' => (f.apart b o hi').2 hi)]
    exact m.batch.zeros.cell b o hi
  · intro b o hi
    rw [h.frozen]; exact m.batch.zeros.free b o hi
  · intro t ht
    rcases List.mem_append.1 ht with ht | ht
    · have hb := m.buf t ht
      refine ⟨hb.addr, ?_, ?_⟩
      · intro b o hi
        rw [h.cell b o (f.disj t ht b o hi)]; exact hb.cell b o hi
      · intro b o hi
        rw [h.frozen]; exact hb.free b o hi
    · obtain rfl : t = (ax, n, x) := by simpa using ht
      refine ⟨f.zeros.addr, ?_, ?_⟩
      · rintro b o ⟨s, hs, h1, h2⟩
        have := h.done b s hs (o - s) (by simp at h2; omega)
        rwa [show s + (o - s) = o by omega] at this
      · intro b o hi
        rw [h.frozen]; exact f.zeros.free b o hi
  · intro t ht b o hi
    rcases List.mem_append.1 ht with ht | ht
    · exact m.blo t ht b o hi
    · obtain rfl : t = (ax, n, x) := by simpa using ht
      exact f.apart b o hi

/-- A store into a block below lo that is not the Batch's. -/
theorem mem_store {w : World} {lo Bb lb : Nat} {af : Option Addr} {lf : Nat} {bufs : List (Option Addr × Nat × Int)} (m : Mem w lo Bb lb af lf bufs) (U k : Nat) (v : Value) (hU : U < lo) (hne : U ≠ Bb) :
    Mem (w.setCell ⟨U, k, none⟩ v) lo Bb lb af lf bufs := by
  have hc : ∀ b o, b ≠ U → (w.setCell ⟨U, k, none⟩ v).cell? ⟨b, o, none⟩ = w.cell? ⟨b, o, none⟩ := fun b o h => World.cell?_setCell_other _ _ _ _ (fun e => h (by injection e with e1; exact e1.symm))
  have hf : ∀ b o, (w.setCell ⟨U, k, none⟩ v).frozen? ⟨b, o, none⟩ = w.frozen? ⟨b, o, none⟩ := fun b o => World.frozen?_setCell _ _ _ _
  refine ⟨⟨?_, m.batch.lb, ?_, ?_, ?_, ⟨m.batch.zeros.addr, ?_, ?_⟩, m.batch.apart⟩, m.hB, by rw [World.size_setCell]; exact m.los, m.flo, ?_, m.blo⟩
  · obtain ⟨ab, cb, hk⟩ := m.batch.blk
    exact ⟨ab, cb, by rw [hc _ _ (Ne.symm hne)]; exact hk⟩
  · rw [hc _ _ (Ne.symm hne)]; exact m.batch.cell
  · rw [hf]; exact m.batch.f1
  · rw [hf]; exact m.batch.f2
  · intro b o hi
    have := m.flo b o hi
    rw [hc _ _ (by omega)]; exact m.batch.zeros.cell b o hi
  · intro b o hi
    rw [hf]; exact m.batch.zeros.free b o hi
  · intro t ht
    have hb := m.buf t ht
    refine ⟨hb.addr, ?_, ?_⟩
    · intro b o hi
      have := (m.blo t ht b o hi).1
      rw [hc _ _ (by omega)]; exact hb.cell b o hi
    · intro b o hi
      rw [hf]; exact hb.free b o hi

end Go.Proofs.Qxb6003417a
