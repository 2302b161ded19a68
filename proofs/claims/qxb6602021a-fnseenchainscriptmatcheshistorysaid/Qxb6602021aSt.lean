/- The walk of the script's law. -/
import Derived.Test.Qxb6602021aCd
namespace Go.Proofs.Qxb6602021a
open Go.ChangeShapes Go.WideShapes Go.ChangeAt Go.RowKit
set_option linter.unusedVariables false
set_option linter.unusedSimpArgs false

theorem info4 : (Try.prog.info? 4).map (fun i => (i.zero, i.size, i.bytes)) = some (some (.bool false), 1, 1) := by kernel_rfl

/-- What stands while the script runs: w the world at the start, B the number of blocks ahead of the seen (block B), whose flags lie in block B + 1. -/
structure St (w : World) (B n : Nat) (s : Option Addr) (src key : Nat → List Int) (seq : Nat → Int) (Y : List Value) (wr : World) (k : Nat) (fl : Nat → Bool) (R : Rec) (ne : Nat) : Prop where
  seen : Seen (fun b => b < B ∨ b = B + 1) wr B R Rec.nil ne
  hist : Hist R src key seq fl k
  le : ne ≤ k
  flags : Flags wr (B + 1) n fl
  row : ∃ cs, wr.heap[B + 1]? = some (.cells cs 4 (0, 0))
  calls : ∀ G, s = some ⟨G, 0, none⟩ → CallsIn wr G n src key seq ∧ G < B
  probe : wr.rangeAt w.heap.size 0 Y
  below : Below w.heap.size w wr
  lt : w.heap.size < B

theorem rangeAt_block {w w' : World} {b o : Nat} {cs : List Value} (h : w.rangeAt b o cs) (hb : w'.heap[b]? = w.heap[b]?) : w'.rangeAt b o cs := fun j v hv => by
  rw [World.cell?_of_block (w := w) (w' := w') (a := ⟨b, o + j, none⟩) hb]; exact h j v hv

theorem CallsIn.block {w w' : World} {G n : Nat} {src key : Nat → List Int} {seq : Nat → Int} (h : CallsIn w G n src key seq) (hb : w'.heap[G]? = w.heap[G]?) : CallsIn w' G n src key seq :=
  ⟨fun j hj => rangeAt_block (h.atSrc j hj) hb, fun j hj => by rw [World.cell?_of_block (w := w) (w' := w') (a := ⟨G, j * 33 + 16, none⟩) hb]; exact h.atSeq j hj, fun j hj => rangeAt_block (h.atKey j hj) hb, h.isSrc, h.isKey⟩

/-- One call of the script: the flag is stored, then the seen is asked. -/
theorem St.step {w : World} {B n : Nat} {s : Option Addr} {src key : Nat → List Int} {seq : Nat → Int} {Y : List Value} {wr : World} {k : Nat} {fl : Nat → Bool} {R : Rec} {ne : Nat} (h : St w B n s src key seq Y wr k fl R ne) (hk : k < n) (hn : n ≤ 8192) (w' : World) {R' O' : Rec} {ne' : Nat} (q : Nat)
    (hs : Seen (fun b => b < B ∨ b = B + 1) w' B R' O' ne') (hK : Kept (fun b => b < B ∨ b = B + 1) ((wr.drewN q).setCell ⟨B + 1, k, none⟩ (.bool (acc (keysOf src key seq fl (src k) (seq k) k) (key k)))) w') (hc : ChainTo R Rec.nil ne (src k) (seq k) (key k) R' O' ne') :
    St w B n s src key seq Y w' (k + 1) (fun j => if j = k then acc (keysOf src key seq fl (src k) (seq k) k) (key k) else fl j) R' ne' := by
  have hle := h.le
  obtain ⟨h1, rfl, h3⟩ := h.hist.step (by omega) hc
  obtain ⟨cs, hH⟩ := h.row
  have hlt := h.lt
  have e1 : ∀ b, b < B → w'.heap[b]? = wr.heap[b]? := fun b hb => (hK.block b (.inl hb)).trans (Below.heap_setCell (wr.drewN q) _ _ _ (by simp; omega))
  have e2 : w'.heap[B + 1]? = some (.cells (cs.setIfInBounds k (.bool (acc (keysOf src key seq fl (src k) (seq k) k) (key k)))) 4 (0, 0)) := (hK.block (B + 1) (.inr rfl)).trans (heap_setCell_cells (w := wr.drewN q) hH _)
  refine ⟨hs, h1, by omega, fun j hj => ?_, ⟨_, e2⟩, fun G hG => ⟨(h.calls G hG).1.block (e1 G (h.calls G hG).2), (h.calls G hG).2⟩, rangeAt_block h.probe (e1 _ hlt), ?_, hlt⟩
  · rw [cell_of_row _ _ _ _ _ _ e2]
    have hf := h.flags j hj
    rw [cell_of_row _ _ _ _ _ _ hH] at hf
    have hjs := (Array.getElem?_eq_some_iff.1 hf).1
    rw [Array.getElem?_setIfInBounds]
    by_cases e : k = j
    · subst e; simp [hjs]
    · rw [if_neg e, if_neg (Ne.symm e)]; exact hf
  · have hb := h.below
    exact ⟨hK.os.trans hb.os, hK.tape.trans hb.tape, hK.output.trans hb.output, Nat.le_trans hb.size (Nat.le_trans (by simp) hK.size), fun b hbl => (e1 b (by omega)).trans (hb.block b hbl)⟩
end Go.Proofs.Qxb6602021a
