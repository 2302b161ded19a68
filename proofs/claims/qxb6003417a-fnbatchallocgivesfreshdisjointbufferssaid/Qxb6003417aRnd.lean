import Derived.Test.Qxb6003417aClone
import Derived.Test.Qxb6003417aMem
import Derived.Deep.LoopGhost
namespace Go.Proofs.Qxb6003417a
open Go.ChangeShapes Go.WideShapes Go.ChangeAt Go.RowKit
set_option linter.unusedVariables false
set_option linter.unusedSimpArgs false

theorem Try.info22 : (Try.prog.info? 22).map (fun i => (i.zero, i.size, i.bytes)) = some (some (.slice none 0 0), 1, 24) := by kernel_rfl

def sumTo (f : Nat → Int) : Nat → Int
  | 0 => 0
  | k + 1 => sumTo f k + f k

theorem sumTo_bd (f : Nat → Int) (k : Nat) (h : ∀ j, j < k → 0 ≤ f j ∧ f j ≤ 65536) : 0 ≤ sumTo f k ∧ sumTo f k ≤ 65536 * k := by
  induction k with
  | zero => simp [sumTo]
  | succ k ih =>
    have h1 := ih (fun j hj => h j (by omega))
    have h2 := h k (by omega)
    simp only [sumTo]
    omega

def fill (i : Nat) : Int := (i : Int) % 255 + 1

/-- After k rounds. -/
structure Rnd (w0 : World) (S Bb U n : Nat) (f : Nat → Int) (k : Nat) (wr : World) (lb : Nat) (af : Option Addr) (lf : Nat) (bufs : List (Option Addr × Nat × Int)) : Prop where
  len : bufs.length = k
  mem : Mem wr (U + 1) Bb lb af lf bufs
  put : ∀ i t, bufs[i]? = some t → wr.cell? ⟨U, i, none⟩ = some (.slice t.1 t.2.1 t.2.1) ∧ t.2.2 = fill i ∧ t.2.1 ≤ 65536
  s : ∀ j, j < n → wr.cell? ⟨S, j, none⟩ = some (.int .i64 (f j))
  u : ∀ j, j < n → ∃ v, wr.cell? ⟨U, j, none⟩ = some v
  uf : ∀ j, wr.frozen? ⟨U, j, none⟩ = false
  below : Below w0.heap.size w0 wr

theorem rnd_start (w : World) (k : Nat) (f : Nat → Int) (cs : List Value) (hcs : cs = (List.range k).map (fun j => Value.int .i64 (f j))) :
    Rnd w w.heap.size (w.heap.size + 1) (w.heap.size + 1 + 1) k f 0 (((w.alloc (.cells cs.toArray 3)).alloc (.cells #[.slice none 0 0, .slice none 0 0, .slice none 0 0] 32)).alloc (.cells (madeCells #[.slice none 0 0] k) 22)) 0 none 0 [] := by
  have hin : ∀ b o, ¬ InR none 0 b o := by rintro b o ⟨s, hs, _⟩; simp at hs
  obtain ⟨w1, hw1⟩ : ∃ w1, w1 = w.alloc (.cells cs.toArray 3) := ⟨_, rfl⟩
  have z1 : w1.heap.size = w.heap.size + 1 := by rw [hw1]; simp
  obtain ⟨w2, hw2⟩ : ∃ w2, w2 = w1.alloc (.cells #[.slice none 0 0, .slice none 0 0, .slice none 0 0] 32) := ⟨_, rfl⟩
  have z2 : w2.heap.size = w.heap.size + 1 + 1 := by rw [hw2]; simp [z1]
  rw [← hw1, ← hw2]
  have cB : ∀ j, (w2.alloc (.cells (madeCells #[.slice none 0 0] k) 22)).cell? ⟨w.heap.size + 1, j, none⟩ = (#[Value.slice none 0 0, .slice none 0 0, .slice none 0 0] : Array Value)[j]? := by
    intro j
    rw [World.cell?_alloc_past _ _ _ (by omega), hw2, World.cell?_alloc_at _ _ _ _ z1.symm]
  have fB : ∀ j, (w2.alloc (.cells (madeCells #[.slice none 0 0] k) 22)).frozen? ⟨w.heap.size + 1, j, none⟩ = false := by
    intro j
    rw [World.frozen?_alloc_past _ _ _ (by omega), hw2, World.frozen?_alloc_at _ _ _ _ z1.symm]
  refine ⟨rfl, ⟨⟨⟨none, 0, cB 1⟩, by omega, cB 2, fB 1, fB 2, ⟨fun h => by omega, fun b o h => (hin b o h).elim, fun b o h => (hin b o h).elim⟩, fun o => hin _ o⟩, by omega, by simp; omega, fun b o h => (hin b o h).elim, by simp, by simp⟩, by simp, ?_, ?_, ?_, ?_⟩
  · intro j hj
    rw [World.cell?_alloc_past _ _ _ (by omega), hw2, World.cell?_alloc_past _ _ _ (by omega), hw1, World.cell?_alloc_at _ _ _ _ rfl, hcs]
    simp [hj]
  · intro j hj
    exact ⟨_, by rw [World.cell?_alloc_at _ _ _ _ z2.symm, madeCells_one _ _ _ hj]⟩
  · intro j
    exact World.frozen?_alloc_at _ _ _ _ z2.symm
  · rw [hw2, hw1]
    exact (((Below.refl _ _).alloc (Nat.le_refl _) _).alloc (by simp) _).alloc (by simp; omega) _

/-- Behind the alloc of round k. -/
structure Mid (w0 : World) (S Bb U n : Nat) (f : Nat → Int) (k q : Nat) (ax : Option Addr) (wr : World) (lb : Nat) (af : Option Addr) (lf : Nat) (bufs : List (Option Addr × Nat × Int)) : Prop where
  len : bufs.length = k
  fresh : Fresh wr (U + 1) Bb q ax lb af lf bufs
  put : ∀ i t, bufs[i]? = some t → wr.cell? ⟨U, i, none⟩ = some (.slice t.1 t.2.1 t.2.1) ∧ t.2.2 = fill i ∧ t.2.1 ≤ 65536
  s : ∀ j, j < n → wr.cell? ⟨S, j, none⟩ = some (.int .i64 (f j))
  u : ∀ j, j < n → ∃ v, wr.cell? ⟨U, j, none⟩ = some v
  uf : ∀ j, wr.frozen? ⟨U, j, none⟩ = false
  below : Below w0.heap.size w0 wr

theorem mid_of {w0 : World} {S Bb U n : Nat} {f : Nat → Int} {k q : Nat} {ax : Option Addr} {wr w1 : World} {lb : Nat} {af : Option Addr} {lf : Nat} {bufs : List (Option Addr × Nat × Int)} {lb' : Nat} {af' : Option Addr} {lf' : Nat}
    (R : Rnd w0 S Bb U n f k wr lb af lf bufs) (G : Given wr w1 Bb q af lf ax lb' af' lf') (hS : S < Bb) (hB : Bb < U) (h0 : w0.heap.size ≤ Bb) : Mid w0 S Bb U n f k q ax w1 lb' af' lf' bufs := by
  have hz := R.mem.los
  refine ⟨R.len, mem_given R.mem G, ?_, ?_, ?_, ?_, R.below.trans (G.below.mono h0)⟩
  · intro i t ht
    rw [G.cell _ _ (by omega) (by omega)]; exact R.put i t ht
  · intro j hj
    rw [G.cell _ _ (by omega) (by omega)]; exact R.s j hj
  · intro j hj
    rw [G.cell _ _ (by omega) (by omega)]; exact R.u j hj
  · intro j
    rw [G.frozen _ _ (by omega)]; exact R.uf j

theorem rnd_next {w0 : World} {S Bb U n : Nat} {f : Nat → Int} {k q : Nat} {ax : Option Addr} {w1 w2 : World} {lb : Nat} {af : Option Addr} {lf : Nat} {bufs : List (Option Addr × Nat × Int)}
    (M : Mid w0 S Bb U n f k q ax w1 lb af lf bufs) (F : Filling w1 w2 ax q q (fill k)) (hk : k < n) (hS : S < Bb) (hB : Bb < U) (h0 : w0.heap.size ≤ S) (hq : q ≤ 65536) (hb : Below w0.heap.size w0 w2) :
    Rnd w0 S Bb U n f (k + 1) (w2.setCell ⟨U, k, none⟩ (.slice ax q q)) lb af lf (bufs ++ [(ax, q, fill k)]) := by
  have hlow : ∀ b o, b ≤ U → w2.cell? ⟨b, o, none⟩ = w1.cell? ⟨b, o, none⟩ := fun b o h => F.cell b o (fun hi => by have := (M.fresh.apart b o hi).1; omega)
  have hoth : ∀ b o, ¬ (b = U ∧ o = k) → b ≤ U → (w2.setCell ⟨U, k, none⟩ (.slice ax q q)).cell? ⟨b, o, none⟩ = w1.cell? ⟨b, o, none⟩ := by
    intro b o hn h
    rw [World.cell?_setCell_other _ _ _ _ (fun e => hn (by injection e with e1 e2; exact ⟨e1.symm, e2.symm⟩)), hlow b o h]
  obtain ⟨v, hv⟩ := M.u k hk
  have hsame : (w2.setCell ⟨U, k, none⟩ (.slice ax q q)).cell? ⟨U, k, none⟩ = some (.slice ax q q) :=
    World.cell?_setCell_same _ _ _ ((hlow U k (Nat.le_refl _)).trans hv)
  refine ⟨by simp [M.len], mem_store (mem_filled M.fresh F) U k _ (by omega) (by omega), ?_, ?_, ?_, ?_, hb.setCell (p := ⟨U, k, none⟩) (by show w0.heap.size ≤ U; omega) _⟩
  · intro i t ht
    by_cases hi : i < bufs.length
    · rw [List.getElem?_append_left hi] at ht
      have hl := M.len
      rw [hoth _ _ (by omega) (Nat.le_refl _)]; exact M.put i t ht
    · rw [List.getElem?_append_right (by omega)] at ht
      have hl := M.len
      have e : i - bufs.length = 0 := by
        have := (List.getElem?_eq_some_iff.1 ht).1
        simp at this
        omega
      obtain rfl : i = k := by omega
      rw [e] at ht
      simp at ht
      subst ht
      exact ⟨hsame, rfl, hq⟩
  · intro j hj
    rw [hoth _ _ (by omega) (by omega)]; exact M.s j hj
  · intro j hj
    by_cases e : j = k
    · subst e; exact ⟨_, hsame⟩
    · rw [hoth _ _ (by omega) (Nat.le_refl _)]; exact M.u j hj
  · intro j
    rw [World.frozen?_setCell, F.frozen]; exact M.uf j

end Go.Proofs.Qxb6003417a
