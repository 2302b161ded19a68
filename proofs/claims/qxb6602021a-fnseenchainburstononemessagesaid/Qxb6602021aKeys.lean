import Derived.Test.Qxb6602021aOpen
import Derived.Test.Qxb6602021aNext
import Derived.Maps.Keyed
import Derived.DeepKeys5
namespace Go.Proofs.Qxb6602021a
open Go.ChangeShapes Go.WideShapes Go.ChangeAt Go.RowKit
set_option linter.unusedVariables false
set_option linter.unusedSimpArgs false
theorem Try.tsize : 61 < Try.prog.types.size := of_decide_eq_true (by kernel_rfl)
theorem Try.laid : laidOutB Try.prog = true := by kernel_rfl
theorem Try.keyed61 : Maps.Keyed Try.prog 61 := Maps.Keyed.of_law (deep_law_gate Try.laid (of_decide_eq_true (by kernel_rfl)) Try.tsize (by kernel_rfl) (by rw [Try.underlying61]))

/-- The key (source S, number q). -/
def kcells (S : List Int) (q : Int) : Array Value := (bcells S ++ [Value.int .u64 q]).toArray
def kv (S : List Int) (q : Int) : Value := .agg (kcells S q)

theorem kcells_size {S : List Int} {q : Int} (h : S.length = 16) : (kcells S q).size = 17 := by simp [kcells, bcells, h]
theorem kv_inj {S T : List Int} {q r : Int} (hS : S.length = 16) (hT : T.length = 16) (h : kv S q = kv T r) : S = T ∧ q = r := by
  simp only [kv, kcells, Value.agg.injEq] at h
  have h' : bcells S ++ [Value.int .u64 q] = bcells T ++ [Value.int .u64 r] := by simpa using congrArg Array.toList h
  obtain ⟨h1, h2⟩ := List.append_inj h' (by simp [bcells, hS, hT])
  exact ⟨bcells_inj h1, by simpa using h2⟩

/-- A key: its bytes are bytes, its number fits. -/
structure IsKey (S : List Int) (q : Int) : Prop where
  bytes : IsBytes 16 S
  lo : 0 ≤ q
  hi : q ≤ 18446744073709551615

theorem Try.cells61 : Try.prog.cellsOf 61 = 17 := by kernel_rfl
theorem Try.cells23 : Try.prog.cellsOf 23 = 16 := by kernel_rfl
theorem Try.cells26 : Try.prog.cellsOf 26 = 1 := by kernel_rfl

theorem wf_u8 {x : Int} (h0 : 0 ≤ x) (h1 : x ≤ 255) : (Lit.int .u8 x).wf = true := by
  simp [Lit.wf, IntKind.min, IntKind.max, IntKind.bits, IntKind.signed]; omega
theorem wf_u64 {x : Int} (h0 : 0 ≤ x) (h1 : x ≤ 18446744073709551615) : (Lit.int .u64 x).wf = true := by
  simp [Lit.wf, IntKind.min, IntKind.max, IntKind.bits, IntKind.signed]; omega

theorem key61 {S : List Int} {q : Int} (h : IsKey S q) : ∃ l, keyOf Try.prog 61 (kv S q) = some l := by
  have hkt : Try.prog.keyType 61 = true := by kernel_rfl
  obtain ⟨d, hd⟩ : ∃ d, Try.prog.types.size + 1 = d + 3 := ⟨Try.prog.types.size - 2, by have := Try.tsize; omega⟩
  have hl := h.bytes.1
  have hs := kcells_size (q := q) hl
  have hi : Try.prog.keyLits (d + 1) 26 [Value.int .u64 q] = some [.int .u64 q] := by
    simp [Program.keyLits, Try.underlying26, wf_u64 h.lo h.hi]
  have hb : ∀ i, i < 16 → Try.prog.keyLits (d + 1) 5 (((bcells S).drop i).take 1) = some [.int .u8 (S.getD i 0)] := by
    intro i hi
    have := h.bytes.get i
    have e : ((bcells S).drop i).take 1 = [Value.int .u8 (S.getD i 0)] := by
      have h1 : i < (bcells S).length := by rw [bcells_length]; omega
      rw [List.drop_eq_getElem_cons h1]
      have h2 := bcells_get (xs := S) (i := i) (by omega)
      rw [List.getElem?_eq_getElem h1] at h2
      simp only [List.take_succ_cons, List.take_zero]
      exact congrArg (fun x => [x]) (Option.some.inj h2)
    rw [e]
    simp [Program.keyLits, Try.underlying5, wf_u8 this.1 this.2]
    have := wf_u8 this.1 this.2
    simpa using this
  have hm : ∀ l : List Nat, (∀ i ∈ l, i < 16) → l.mapM (fun i => Try.prog.keyLits (d + 1) 5 (((bcells S).drop (i * 1)).take 1)) = some (l.map fun i => [Lit.int .u8 (S.getD i 0)]) := by
    intro l hl
    induction l with
    | nil => rfl
    | cons x l ih =>
      rw [List.mapM_cons, Nat.mul_one, hb x (hl x (by simp)), ih (fun i hi => hl i (by simp [hi]))]
      rfl
  have h23 : Try.prog.keyLits (d + 2) 23 (bcells S) = some ((List.range 16).map fun i => [Lit.int .u8 (S.getD i 0)]).flatten := by
    unfold Program.keyLits
    simp only [Try.underlying23, Try.cells23, Try.cells5, bcells_length, hl, if_true]
    rw [hm _ (fun i hi => by simpa using hi)]
    rfl
  have h61 : Try.prog.keyLits (d + 3) 61 (kcells S q).toList = some ([((List.range 16).map fun i => [Lit.int .u8 (S.getD i 0)]).flatten, [Lit.int .u64 q]].flatten) := by
    unfold Program.keyLits
    simp only [Try.underlying61, Try.cells61, kcells]
    rw [if_pos (by simp [bcells, hl])]
    simp only [List.mapM_cons, List.mapM_nil, Try.cells23, Try.cells26]
    have e1 : List.take 16 (List.drop 0 (bcells S ++ [Value.int IntKind.u64 q])) = bcells S := by
      simp [bcells, hl]
    have e2 : List.take 1 (List.drop 16 (bcells S ++ [Value.int IntKind.u64 q])) = [Value.int IntKind.u64 q] := by
      simp [bcells, hl]
    have hi' : Try.prog.keyLits (d + 2) 26 [Value.int .u64 q] = some [.int .u64 q] := by
      simp [Program.keyLits, Try.underlying26, wf_u64 h.lo h.hi]
    simp only [e1, e2, h23, hi']
    rfl
  cases hx : keyOf Try.prog 61 (kv S q) with
  | some l => exact ⟨l, rfl⟩
  | none =>
    exfalso
    simp only [keyOf, Try.underlying61, hkt, kv, Value.formed, hs, Try.cells61, Value.cells, Bool.true_and, beq_self_eq_true, if_true, hd, h61] at hx
    cases hx
end Go.Proofs.Qxb6602021a
