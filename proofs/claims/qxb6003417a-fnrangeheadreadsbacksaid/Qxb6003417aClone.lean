import Derived.Test.Qxb6003417aBase
namespace Go.Proofs.Qxb6003417a
open Go.ChangeShapes Go.WideShapes Go.ChangeAt Go.RowKit
set_option linter.unusedVariables false
set_option linter.unusedSimpArgs false

theorem setRow_alloc (w : World) (cur cs : Array Value) (t : TypeId) : (w.alloc (.cells cur t)).setRow w.heap.size cs = w.alloc (.cells cs t) := by
  simp only [World.setRow, World.alloc]
  congr 1
  apply Array.ext
  · simp
  · intro i h1 h2
    simp only [Array.getElem_modify, Array.getElem_push]
    split
    · subst_vars; simp
    · split
      · rfl
      · rename_i a b; simp at h1; omega

/-- 'copy(out, s)' right behind 'out := make([]T, len(s))': the new block holds s's cells. -/
theorem wpList_copy_new {P : Program} {W : World} {ops : Array Oper} {rest : List Oper} {o : Oper} {a : Act} {Q : Exit → Act → World → Prop} (hgd : o.guard = none) (d s : Operand) (dT sT : TypeId)
    (ho : o.op = .call { callee := .builtin .copy, args := #[d, s], argTypes := #[dT, sT] }) (elem : TypeId) (hu : P.underlying dT = some (.slice elem)) (hsz : (P.info? elem).map (·.size) = some 1)
    (w : World) (cur : Array Value) (t : TypeId) (hW : W = w.alloc (.cells cur t)) (n dCap : Nat) (ad : Addr) (sCap : Nat) (hd : a.eval d = .slice (some ⟨w.heap.size, 0, none⟩) n dCap) (hs : a.eval s = .slice (some ad) n sCap)
    (hcur : cur.size = n) (cs : List Value) (hn : cs.length = n)
    (hsrc : Hid (∀ j v, cs[j]? = some v → w.cell? (ad.add j) = some v)) (h1 : Hid (∀ v ∈ cs, v.oneCell' = true))
    (h : wpList P ops Q rest (a.put o.dst (goInt n)) (w.alloc (.cells cs.toArray t))) : wpList P ops Q (o :: rest) a W := by
  subst hW
  have hx : ∀ j v, cs[j]? = some v → (w.alloc (.cells cur t)).cell? (ad.add j) = some v := by
    intro j v hv
    have h0 := hsrc.out j v hv
    rw [World.cell?_alloc_lt]
    · exact h0
    · exact World.block_lt_of_cell? _ _ h0
  refine wpList_copy_own hgd d s dT sT ho elem hu hsz w.heap.size 0 n dCap ad n sCap hd hs cur t (heap_alloc_new w _) cs (by simpa using hn) hx (by omega) h1.out ?_
  have e : (cur.toList.take 0 ++ (cs ++ cur.toList.drop (0 + cs.length))).toArray = cs.toArray := by
    have : cur.toList.drop (0 + cs.length) = [] := List.drop_eq_nil_of_le (by simp; omega)
    rw [this]; simp
  rw [e, setRow_alloc, hn]
  exact h

theorem Try.size3 : (Try.prog.info? 3).map (·.size) = some 1 := by kernel_rfl
theorem Try.size5 : (Try.prog.info? 5).map (·.size) = some 1 := by kernel_rfl

set_option maxHeartbeats 400000 in
/-- zzCloneInts of a slice that is not nil. -/
theorem cloneInts_some (x : Addr) (n c : Nat) (cs : List Value) (w : World) (hn : n ≤ 1048576) (hl : cs.length = n)
    (hc : Hid (∀ j v, cs[j]? = some v → w.cell? (x.add j) = some v)) (h1 : Hid (∀ v ∈ cs, v.oneCell' = true)) :
    Calls Try.prog 15 #[.slice (some x) n c] w fun e w' => e = .returned (.slice (some ⟨w.heap.size, 0, none⟩) n n) ∧ w' = w.alloc (.cells cs.toArray 3) := by
  have hb : 8 * n ≤ 281474976710656 := by omega
  have hb2 : n ≤ 9223372036854775807 := by omega
  have q27 : ∀ (w : World) (a : Option Addr) (n c n' c' : Nat), (binOp .eql 27 (.slice a n c) (.slice none n' c')).run Try.prog w = .ok (.bool a.isNone) w := fun w a n c n' c' => Lib.run_eql_slice_nil w _ _ a n c n' c' Try.underlying27
  have hl' : Hid (cs.length = n) := hl
  clear hl
  go_enter Try.func15, Try.ntmps15
  go_wp2_with (first | (at_make; refine wpList_make_at _ rfl _ _ 27 rfl 3 _ _ _ Try.underlying27 Try.info3 _ _ _ _ n rfl rfl rfl rfl hb hb2 ?_) | (refine wpList_copy_new rfl (.tmp 9) (.tmp 10) 27 27 rfl 3 Try.underlying27 Try.size3 w _ _ rfl n n x c rfl rfl ?hcur cs hl'.out hc h1 ?_))
  case hcur => simp [size_madeCells]
  go_ret
  exact ⟨rfl, rfl⟩

theorem cloneInts_nil (n c : Nat) (w : World) :
    Calls Try.prog 15 #[.slice none n c] w fun e w' => e = .returned (.slice none 0 0) ∧ w' = w := by
  have q27 : ∀ (w : World) (a : Option Addr) (n c n' c' : Nat), (binOp .eql 27 (.slice a n c) (.slice none n' c')).run Try.prog w = .ok (.bool a.isNone) w := fun w a n c n' c' => Lib.run_eql_slice_nil w _ _ a n c n' c' Try.underlying27
  go_enter Try.func15, Try.ntmps15
  go_wp2
  go_ret
  exact ⟨rfl, rfl⟩

set_option maxHeartbeats 400000 in
/-- zzClone of a slice that is not nil. -/
theorem clone_some (x : Addr) (n c : Nat) (cs : List Value) (w : World) (hn : n ≤ 1048576) (hl : cs.length = n)
    (hc : Hid (∀ j v, cs[j]? = some v → w.cell? (x.add j) = some v)) (h1 : Hid (∀ v ∈ cs, v.oneCell' = true)) :
    Calls Try.prog 11 #[.slice (some x) n c] w fun e w' => e = .returned (.slice (some ⟨w.heap.size, 0, none⟩) n n) ∧ w' = w.alloc (.cells cs.toArray 5) := by
  have hb : 1 * n ≤ 281474976710656 := by omega
  have hb2 : n ≤ 9223372036854775807 := by omega
  have q22 : ∀ (w : World) (a : Option Addr) (n c n' c' : Nat), (binOp .eql 22 (.slice a n c) (.slice none n' c')).run Try.prog w = .ok (.bool a.isNone) w := fun w a n c n' c' => Lib.run_eql_slice_nil w _ _ a n c n' c' Try.underlying22
  have hl' : Hid (cs.length = n) := hl
  clear hl
  go_enter Try.func11, Try.ntmps11
  go_wp2_with (first | (at_make; refine wpList_make_at _ rfl _ _ 22 rfl 5 _ _ _ Try.underlying22 Try.info5 _ _ _ _ n rfl rfl rfl rfl hb hb2 ?_) | (refine wpList_copy_new rfl (.tmp 9) (.tmp 10) 22 22 rfl 5 Try.underlying22 Try.size5 w _ _ rfl n n x c rfl rfl ?hcur cs hl'.out hc h1 ?_))
  case hcur => simp [size_madeCells]
  go_ret
  exact ⟨rfl, rfl⟩

theorem clone_nil (n c : Nat) (w : World) :
    Calls Try.prog 11 #[.slice none n c] w fun e w' => e = .returned (.slice none 0 0) ∧ w' = w := by
  have q22 : ∀ (w : World) (a : Option Addr) (n c n' c' : Nat), (binOp .eql 22 (.slice a n c) (.slice none n' c')).run Try.prog w = .ok (.bool a.isNone) w := fun w a n c n' c' => Lib.run_eql_slice_nil w _ _ a n c n' c' Try.underlying22
  go_enter Try.func11, Try.ntmps11
  go_wp2
  go_ret
  exact ⟨rfl, rfl⟩

end Go.Proofs.Qxb6003417a
