/- Building a message's name, a slice of one identity; append to a slice of identities whose capacity is its length. -/
import Derived.Test.Qxb6602021aPut2
import Derived.Great.BuildSlice
namespace Go.Proofs.Qxb6602021a
open Go.ChangeShapes Go.WideShapes Go.ChangeAt Go.RowKit
set_option linter.unusedVariables false
set_option linter.unusedSimpArgs false

theorem list16 {S : List Int} (h : S.length = 16) : ∃ a0 a1 a2 a3 a4 a5 a6 a7 a8 a9 a10 a11 a12 a13 a14 a15, S = [a0, a1, a2, a3, a4, a5, a6, a7, a8, a9, a10, a11, a12, a13, a14, a15] := by
  match S, h with
  | [a0, a1, a2, a3, a4, a5, a6, a7, a8, a9, a10, a11, a12, a13, a14, a15], _ => exact ⟨_, _, _, _, _, _, _, _, _, _, _, _, _, _, _, _, rfl⟩

def zero16 : Value := .agg (bcells (List.replicate 16 0)).toArray
theorem info23 : (Try.prog.info? 23).map (fun i => (i.zero, i.size, i.bytes)) = some (some zero16, 16, 16) := by kernel_rfl
def zero17 : Value := .agg (bcells (List.replicate 16 0) ++ [Value.int .u64 0]).toArray
theorem info61 : (Try.prog.info? 61).map (fun i => (i.zero, i.size)) = some (some zero17, 17) := by kernel_rfl
theorem info26 : (Try.prog.info? 26).map (fun i => i.size) = some 1 := by kernel_rfl

theorem fill16 {S : List Int} (h : S.length = 16) : Instr.fill (fun i => some (i * 16, 16)) ((Array.range (1 * 16)).map (zero16.cells[· % zero16.cells.size]!)) [(0, .agg (bcells S).toArray)] = some (bcells S).toArray := by
  obtain ⟨a0, a1, a2, a3, a4, a5, a6, a7, a8, a9, a10, a11, a12, a13, a14, a15, rfl⟩ := list16 h
  kernel_rfl

theorem fill17 {S : List Int} {q : Int} (h : S.length = 16) : Instr.fill (fun x => ([(0, 16), (16, 1)] : List (Nat × Nat))[x]?) zero17.cells [(0, .agg (bcells S).toArray), (1, .int .u64 q)] = some (bcells S ++ [Value.int .u64 q]).toArray := by
  obtain ⟨a0, a1, a2, a3, a4, a5, a6, a7, a8, a9, a10, a11, a12, a13, a14, a15, rfl⟩ := list16 h
  kernel_rfl

theorem run_build61 {S : List Int} {q : Int} (h : S.length = 16) (w : World) : (Instr.build 61 #[(0, .agg (bcells S).toArray), (1, .int .u64 q)]).run Try.prog w = .ok (.agg (bcells S ++ [Value.int .u64 q]).toArray) w := by
  obtain ⟨i, hi, hz⟩ := Option.map_eq_some_iff.1 info61
  obtain ⟨j, hj, hy⟩ := Option.map_eq_some_iff.1 info23
  obtain ⟨k, hk, hx⟩ := Option.map_eq_some_iff.1 info26
  simp only [Prod.mk.injEq] at hz hy
  have hf := fill17 (q := q) h
  simp [Instr.build, zeroValue, typeInfo, hi, hz.1, run_underlying Try.underlying61, sizeOf, hj, hk, hy.2.1, hx, hf, Result.andThen]

/-- Whatever yields a value in every world that counts. -/
theorem quiet_val {P : Program} {C : World → Prop} {o : Oper} {a : Act} {K : Act → Prop} (v : Value) (hrun : ∀ w, C w → (execOp a.eval o).run P w = .ok (.value v) w) (hk : K (a.put o.dst v)) : o.quiet P a C K :=
  ⟨v, fun w hw => by unfold Oper.quietAt; rw [hrun w hw]; exact ⟨rfl, rfl⟩, hk⟩

theorem exec_build61 {o : Oper} {a : Act} (x y : Operand) (ho : o.op = .build 61 #[(0, x), (1, y)]) {S : List Int} {q : Int} (h : S.length = 16) (Y : List Value) (hY : Hid (Y = bcells S)) (hx : a.eval x = .agg Y.toArray) (hy : a.eval y = .int .u64 q) (w : World) :
    (execOp a.eval o).run Try.prog w = .ok (.value (.agg (Y ++ [Value.int .u64 q]).toArray)) w := by
  have := run_build61 (q := q) h w
  have hY' := hY.out
  subst hY'
  unfold execOp
  simp [ho, hx, hy, this, Result.andThen]

/-- The slice of one identity. -/
theorem wpList_one {ops : Array Oper} {rest : List Oper} {o : Oper} {a : Act} {w : World} {Q : Exit → Act → World → Prop} (hg : o.guard = none) (x : Operand) (ho : o.op = .buildSlice 47 1 #[(0, x)]) {S : List Int} (hS : S.length = 16) (Y : List Value) (hY : Hid (Y = bcells S)) (hx : a.eval x = .agg Y.toArray)
    (h : wpList Try.prog ops Q rest (a.put o.dst (.slice (some ⟨w.heap.size, 0, none⟩) 1 1)) (w.alloc (.cells Y.toArray 23))) : wpList Try.prog ops Q (o :: rest) a w := by
  obtain ⟨i, hi, hz⟩ := Option.map_eq_some_iff.1 info23
  simp only [Prod.mk.injEq] at hz
  have hY' := hY.out
  subst hY'
  refine wpList_buildSlice hg 47 23 1 _ ho (bcells S).toArray i zero16 Try.underlying47 hi hz.1 (by rw [hz.2.1]; omega) (by rw [hz.2.1]; omega) ?_ h
  have := fill16 hS
  rw [hz.2.1]
  simpa [hx] using this

/-- append(s, x): s is of capacity its length. -/
theorem run_app1 (w : World) (ty : TypeId) (s : Option Addr) (L : List (List Int)) (hI : Ids w s L) (hnil : s = none → L = []) (hL : L.length < 4) (X : List Int) (hX : IsBytes 16 X) (b : Nat) (hb : w.rangeAt b 0 (bcells X)) :
    ∃ c w', (Builtin.append_ #[47, 47] ty #[.slice s L.length L.length, .slice (some ⟨b, 0, none⟩) 1 1]).run Try.prog w = .ok (.slice (some ⟨w.heap.size, 0, none⟩) (L ++ [X]).length c) w' ∧ Row w' (.slice (some ⟨w.heap.size, 0, none⟩) (L ++ [X]).length c) (L ++ [X]) ∧ Below w.heap.size w w' := by
  obtain ⟨i, hi, hz⟩ := Option.map_eq_some_iff.1 info23
  simp only [Prod.mk.injEq] at hz
  obtain ⟨hz0, hz1, hz2⟩ := hz
  have hnl : (bcells X).length = 1 * i.size := by rw [hz1, bcells_length, hX.1]
  have hnews : ∀ j v, (bcells X)[j]? = some v → w.cell? ((⟨b, 0, none⟩ : Addr).add j) = some v := fun j v hv => by rw [Addr.add_mid]; exact hb j v hv
  have hids : ∀ x ∈ L ++ [X], IsBytes 16 x := fun x hx => by
    rcases List.mem_append.1 hx with h | h
    · exact hI.ids x h
    · obtain rfl := List.mem_singleton.1 h; exact hX
  have hlen : (L ++ [X]).length = L.length + 1 := by simp
  have holds : ∀ g, s = some ⟨g, 0, none⟩ → ∀ j v, (flat L)[j]? = some v → w.cell? ((⟨g, 0, none⟩ : Addr).add j) = some v := by
    intro g hg j v hv
    have hj : j < 16 * L.length := by rw [← flat_length hI.ids]; exact (List.getElem?_eq_some_iff.1 hv).1
    have hx : L[j / 16]? = some L[j / 16] := List.getElem?_eq_getElem (by omega)
    have := hI.cells g hg (j / 16) _ hx (j % 16) v ?_
    · rw [Addr.add_mid, show 0 + j = j / 16 * 16 + j % 16 by omega]; exact this
    · rw [← flat_get hI.ids hx, List.getElem?_take, if_pos (by omega), List.getElem?_drop, show 16 * (j / 16) + j % 16 = j by omega]
      exact hv
  have htake : ∀ z : Array Value, ((flat (L ++ [X])).toArray ++ z).toList.take (16 * (L ++ [X]).length) = flat (L ++ [X]) := fun z => by
    rw [Array.toList_append, List.take_append_of_le_length (by simp only []; rw [flat_length hids]; exact Nat.le_refl _), List.take_of_length_le (by simp only []; rw [flat_length hids]; exact Nat.le_refl _)]
  cases L with
  | nil =>
    by_cases hs : s = none
    · subst hs
      have hr := run_append_nil (P := Try.prog) w 47 ty 23 i _ Try.underlying47 hi hz0 ⟨b, 0, none⟩ 1 1 (bcells X) hnl hnews (by omega) (by omega) (by rw [hz2]; omega)
      refine ⟨_, _, hr, ⟨⟨w.heap.size, _, _, rfl, heap_alloc_new w.drew _, ?_, grownCap_ge w 1 0 23⟩, hids, by simp, by simp⟩, (Below.refl _ w).drew.alloc (Nat.le_refl _) _⟩
      have := htake (Builtin.zeroCells zero16.cells (grownCap w 1 0 23 - 1))
      simpa [flat] using this
    · obtain ⟨ad, rfl⟩ := Option.ne_none_iff_exists'.1 hs
      have hr := run_append_grow (P := Try.prog) w 47 ty 23 i _ Try.underlying47 hi hz0 ad 0 0 [] (by simp) (by simp) ⟨b, 0, none⟩ 1 1 (bcells X) hnl hnews (by omega) (by omega) (by rw [hz2]; exact growslice_fits (by omega) (by omega))
      refine ⟨_, _, hr, ⟨⟨w.heap.size, _, _, rfl, heap_alloc_new w.drew _, ?_, grownCap_ge w _ 0 23⟩, hids, by simp, by simp⟩, (Below.refl _ w).drew.alloc (Nat.le_refl _) _⟩
      have := htake (Builtin.zeroCells zero16.cells (grownCap w (0 + 1) 0 23 - (0 + 1)))
      simpa [flat] using this
  | cons y M =>
    obtain ⟨g, rfl⟩ := hI.addr (by simp)
    have hr := run_append_grow (P := Try.prog) w 47 ty 23 i _ Try.underlying47 hi hz0 ⟨g, 0, none⟩ (y :: M).length (y :: M).length (flat (y :: M)) (by rw [flat_length hI.ids, hz1]; omega) (holds g rfl) ⟨b, 0, none⟩ 1 1 (bcells X) hnl hnews (by omega) (by omega) (by rw [hz2]; exact growslice_fits (by omega) (by omega))
    refine ⟨grownCap w ((y :: M).length + 1) (y :: M).length 23, _, by rw [hlen]; exact hr, ⟨⟨w.heap.size, _, _, rfl, heap_alloc_new w.drew _, ?_, by rw [hlen]; exact grownCap_ge w _ _ 23⟩, hids, by simp, by rw [hlen]; omega⟩, (Below.refl _ w).drew.alloc (Nat.le_refl _) _⟩
    have := htake (Builtin.zeroCells zero16.cells (grownCap w ((y :: M).length + 1) (y :: M).length 23 - ((y :: M).length + 1)))
    rw [flat_append] at this ⊢
    simpa [flat] using this
end Go.Proofs.Qxb6602021a
