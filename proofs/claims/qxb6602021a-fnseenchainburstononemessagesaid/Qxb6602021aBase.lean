/- Shared by this seat's proofs: rows of bytes, '==' of two arrays of bytes, a whole array stored. -/
import Derived.Test.Qxb6602021aRows
import Derived.WalkKit
import Derived.ProofKit
import Derived.WalkSpells
import Derived.WalkLawsBesides
import Derived.Deep.LoopGhost
import Derived.Deep.QuietTactic
import Derived.BigQuiet
namespace Go.Proofs.Qxb6602021a
open Go.ChangeShapes Go.WideShapes Go.ChangeAt Go.RowKit
set_option linter.unusedVariables false
set_option linter.unusedSimpArgs false

/-- The bytes xs as cells. -/
def bcells (xs : List Int) : List Value := xs.map (Value.int .u8)

theorem bcells_length (xs : List Int) : (bcells xs).length = xs.length := by simp [bcells]
theorem bcells_append (xs ys : List Int) : bcells (xs ++ ys) = bcells xs ++ bcells ys := by simp [bcells]
theorem bcells_one (xs : List Int) : ∀ u ∈ bcells xs, u.oneCell' = true := ints_oneCell _ _
theorem bcells_get {xs : List Int} {i : Nat} (h : i < xs.length) : (bcells xs)[i]? = some (.int .u8 (xs.getD i 0)) := by simp [bcells, h]
theorem bcells_set (xs : List Int) (i : Nat) (y : Int) : bcells (xs.set i y) = (bcells xs).set i (.int .u8 y) := by simp [bcells]
theorem bcells_inj {xs ys : List Int} (h : bcells xs = bcells ys) : xs = ys := by
  unfold bcells at h
  induction xs generalizing ys with
  | nil => cases ys with | nil => rfl | cons => simp at h
  | cons x xs ih => cases ys with
    | nil => simp at h
    | cons y ys => simp at h; rw [h.1, ih h.2]

/-- A byte's range. -/
def IsBytes (n : Nat) (A : List Int) : Prop := A.length = n ∧ ∀ x ∈ A, 0 ≤ x ∧ x ≤ 255

theorem IsBytes.get {n : Nat} {A : List Int} (h : IsBytes n A) (i : Nat) : 0 ≤ A.getD i 0 ∧ A.getD i 0 ≤ 255 := by
  by_cases hi : i < A.length
  · have : A.getD i 0 ∈ A := by simp [hi]
    exact h.2 _ this
  · simp [List.getElem?_eq_none (by omega : A.length ≤ i)]

theorem Try.size5 : ∀ w, (sizeOf 5).run Try.prog w = .ok 1 w := by
  intro w
  have h : (Try.prog.info? 5).map (·.size) = some 1 := by kernel_rfl
  obtain ⟨i, hi, hs⟩ := Option.map_eq_some_iff.1 h
  simp [sizeOf, typeInfo, hi, hs]

theorem all_range_eq' : ∀ (xs ys : List Int), xs.length = ys.length → ((List.range xs.length).all fun i => xs.getD i 0 == ys.getD i 0) = (xs == ys)
  | [], [], _ => rfl
  | x :: xs, y :: ys, h => by
    have ih := all_range_eq' xs ys (by simpa using h)
    rw [List.length_cons, List.range_succ_eq_map, List.all_cons, List.all_map]
    simp only [List.getD_cons_zero, Function.comp_def, List.getD_cons_succ, ih]
    simp [List.cons_beq_cons]
  | [], _ :: _, h => by simp at h
  | _ :: _, [], h => by simp at h

/-- '==' of two arrays of bytes. -/
theorem run_equalIn_bytes' (w : World) (d : Nat) (t : TypeId) (n : Nat) (ht : Try.prog.underlying t = some (.array n 5)) (xs ys : List Int) (hx : xs.length = n) (hy : ys.length = n) :
    (Op.equalIn (d + 2) t (.agg (bcells xs).toArray) (.agg (bcells ys).toArray)).run Try.prog w = .ok (xs == ys) w := by
  have he := Try.underlying5
  rw [← all_range_eq' xs ys (hx.trans hy.symm), hx, List.range_eq_range', Op.equalIn]
  simp only [Sem.run_bind, run_underlying ht, Result.andThen_ok, Try.size5, Std.Legacy.Range.forIn_eq_forIn_range', Std.Legacy.Range.size, Nat.sub_zero, Nat.add_sub_cancel, Nat.div_one]
  have hl : ∀ i ∈ List.range' 0 n 1, i < n := fun i hi => by simpa using (List.mem_range'_1.1 hi).2
  generalize List.range' 0 n 1 = l at hl ⊢
  induction l with
  | nil => simp
  | cons i l ih =>
    have hi : i < n := hl i (by simp)
    have px : (part 5 (bcells xs).toArray (i * 1)).run Try.prog w = .ok (.int .u8 (xs.getD i 0)) w := by
      simp [part, isAgg, run_underlying he, bcells_get (show i < xs.length by omega)]
    have py : (part 5 (bcells ys).toArray (i * 1)).run Try.prog w = .ok (.int .u8 (ys.getD i 0)) w := by
      simp [part, isAgg, run_underlying he, bcells_get (show i < ys.length by omega)]
    have pe := run_equalIn_int (P := Try.prog) w d 5 .u8 .u8 (xs.getD i 0) (ys.getD i 0) he
    simp only [List.forIn_cons, Sem.run_bind, px, py, pe, Result.andThen_ok, List.all_cons]
    cases hb : (xs.getD i 0 == ys.getD i 0)
    · simp
    · simp only [Bool.not_true, Bool.false_eq_true, if_false, Sem.run_pure, Result.andThen_ok, Bool.true_and]
      exact ih fun j hj => hl j (by simp [hj])

theorem run_eql16 (w : World) (t : TypeId) (ht : Try.prog.underlying t = some (.array 16 5)) (xs ys : List Int) (hx : xs.length = 16) (hy : ys.length = 16) :
    (binOp .eql t (.agg (bcells xs).toArray) (.agg (bcells ys).toArray)).run Try.prog w = .ok (.bool (xs == ys)) w := by
  rw [run_eql_struct, run_equalIn_bytes' w 9998 t 16 ht xs ys hx hy]
  rfl

theorem run_neq16 (w : World) (t : TypeId) (ht : Try.prog.underlying t = some (.array 16 5)) (xs ys : List Int) (hx : xs.length = 16) (hy : ys.length = 16) :
    (binOp .neq t (.agg (bcells xs).toArray) (.agg (bcells ys).toArray)).run Try.prog w = .ok (.bool (!(xs == ys))) w := by
  rw [run_neq_struct, run_equalIn_bytes' w 9998 t 16 ht xs ys hx hy]
  rfl

end Go.Proofs.Qxb6602021a
