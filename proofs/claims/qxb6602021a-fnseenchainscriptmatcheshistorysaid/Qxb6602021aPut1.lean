/- put. -/
import Derived.Test.Qxb6602021aGet
namespace Go.Proofs.Qxb6602021a
open Go.ChangeShapes Go.WideShapes Go.ChangeAt Go.RowKit
set_option linter.unusedVariables false
set_option linter.unusedSimpArgs false

/-- A store into a map, at the operation. -/
theorem wpList_store61 {ops : Array Oper} {rest : List Oper} {op : Oper} {a : Act} {w : World} {Q : Exit → Act → World → Prop} (hgd : op.guard = none) (x y z : Operand) (ho : op.op = .mapUpdate 54 x y z)
    (b : Nat) (hx : a.eval x = .map (some b)) (Y : List Value) (hy : a.eval y = .agg Y.toArray) (v : Value) (hz : a.eval z = v) {m : Rec} {n : Nat} (h : IsMap w b m n) {S : List Int} {q : Int} (hk : IsKey S q) (hkv : kv S q = .agg Y.toArray) {L : List (List Int)} (hv : Row w v L)
    (hK : ∀ w' n', IsMap w' b (m.put S q L) n' → n' ≤ n + 1 → w'.heap.size = w.heap.size → (∀ k, k ≠ b → w'.heap[k]? = w.heap[k]?) → w'.os = w.os → w'.tape = w.tape → w'.output = w.output → wpList Try.prog ops Q rest (a.put op.dst undef) w') : wpList Try.prog ops Q (op :: rest) a w := by
  refine wpList_plain hgd fun K' hK' => ?_
  obtain ⟨o, n', hrun, hm, hn, _⟩ := run_store h hk hv
  rw [hkv] at hrun
  unfold Oper.wp
  simp [execOp, ho, hx, hy, hz, hrun, Result.andThen]
  refine hK' _ _ (hK _ n' hm hn (by simp [ChangeMaps.setBlock]) (fun k hkb => ?_) rfl rfl rfl)
  simp [ChangeMaps.setBlock, Array.getElem?_setIfInBounds, Ne.symm hkb]

theorem Try.eqlSome (b : Nat) (w : World) : (binOp .eql 54 (.map (some b)) (.map none)).run Try.prog w = .ok (.bool false) w := by kernel_rfl
theorem Try.eqlNil (w : World) : (binOp .eql 54 (.map none) (.map none)).run Try.prog w = .ok (.bool true) w := by kernel_rfl

theorem run_len54 {w : World} {b : Nat} {es : Array MapEntry} {clock : Nat} (hb : w.heap[b]? = some (.map es clock)) : (Builtin.len_ #[54] 3 #[.map (some b)]).run Try.prog w = .ok (.int .i64 es.size) w := by
  simp [Builtin.len_, run_underlying Try.underlying54, MapKept.run_getObj_map hb, Result.andThen, goInt]

theorem Try.runMake (w : World) : (Instr.makeMap 54 none).run Try.prog w = .ok (.map (some w.heap.size)) (w.alloc (.map #[] 0)) := rfl

/-- What put has left: block b is the map, it holds m; of the other old blocks but those of X none has turned. -/
structure Stored (w w' : World) (X : Nat → Prop) (b : Nat) (m : Rec) (n : Nat) : Prop where
  map : IsMap w' b m n
  block : ∀ k, k < w.heap.size → ¬ X k → w'.heap[k]? = w.heap[k]?
  os : w'.os = w.os
  tape : w'.tape = w.tape
  output : w'.output = w.output
  size : w.heap.size ≤ w'.heap.size


set_option maxRecDepth 100000 in
set_option maxHeartbeats 1000000 in
theorem put_some (A b : Nat) (o : Option Nat) (R : Rec) (n : Nat) (S : List Int) (q : Int) (Y : List Value) (L : List (List Int)) (g c : Nat) (w : World) (hk : IsKey S q) (hY : Hid (Y = bcells S ++ [Value.int .u64 q])) (hv : Row w (.slice (some ⟨g, 0, none⟩) L.length c) L) (hA : w.heap[A]? = some (.cells #[.map (some b), .map o] 58 (0, 0))) (hR : IsMap w b R n) (M : List (List Int)) (hRS : R S q = some M) :
    Calls Try.prog 25 #[.pointer (some ⟨A, 0, none⟩), .agg Y.toArray, .slice (some ⟨g, 0, none⟩) L.length c, .int .i64 16384] w fun e w' => e = .returned (.tuple #[]) ∧ ∃ n', Stored w w' (· = b) b (R.put S q L) n' ∧ n' ≤ n + 1 := by
  have B1 : Below w.heap.size w (w.alloc (.cells Y.toArray 61)) := (Below.refl _ _).alloc (Nat.le_refl _) _
  have hr := rangeAt_new w Y 61
  have hAl : A < w.heap.size := (Array.getElem?_eq_some_iff.1 hA).1
  have hYs : (Try.prog.info? 61).map (·.size) = some Y.length := by rw [hY.out]; exact Try.len61 hk.bytes.1
  have hkv : kv S q = .agg Y.toArray := by rw [hY.out]; rfl
  have hv1 := hv.later B1
  have q1 := Try.eqlSome b
  have q0 := Try.eqlNil
  have qm := Try.runMake
  have hA0 : (w.alloc (.cells Y.toArray 61)).cell? ⟨A, 0, none⟩ = some (.map (some b)) := by rw [World.cell?_alloc_past _ _ _ hAl, cell_of_row _ _ _ _ _ _ hA]; rfl
  have hR1 := hR.later B1
  obtain ⟨s1, c1, L1, l1, _, _, _⟩ := look_one (r := some b) hR1 hk
  rw [hkv, hRS] at l1
  simp only [Option.isSome_some, Option.isSome_none] at l1
  generalize L1.length = n1 at l1
  obtain ⟨es, clock, hes, hn, _⟩ := hR1.ex
  subst hn
  have hlen : ∀ k, (Builtin.len_ #[54] 3 #[.map (some b)]).run Try.prog ((w.alloc (.cells Y.toArray 61)).drewN k) = .ok (.int .i64 es.size) ((w.alloc (.cells Y.toArray 61)).drewN k) := fun k => run_len54 hes
  go_enter Try.func25, Try.ntmps25
  go_wp2
  generalize hw1 : w.alloc (.cells Y.toArray 61) = w1 at *
  have hs1 : w.heap.size < w1.heap.size := by rw [← hw1]; simp
  have hAlt : A < w1.heap.size := by omega
  have hAne : ¬ A = w1.heap.size := by omega
  refine wp_region_quiet_lit (by kernel_rfl) (by kernel_rfl) ?_
  repeat (first
    | go_big_quiet_skip
    | (go_big_quiet_want
       first
       | (refine quiet_mid 61 (.tmp 5) rfl _ _ rfl Y _ (fun _ ⟨n, e⟩ => e ▸ rangeAt_drewN hr n) Try.underlying61 rfl hYs ?_
          go_big_quiet_on
          simp only [Act.put, List.setIfInBounds_toArray, List.set_cons_zero, List.set_cons_succ])
       | (refine quiet_look 54 (.tmp 14) (.tmp 15) rfl _ _ rfl rfl _ (fun _ ⟨n, e⟩ => e ▸ l1 n) ?_
          go_big_quiet_on
          simp only [Act.put, List.setIfInBounds_toArray, List.set_cons_zero, List.set_cons_succ])
       | (go_big_quiet_op; go_big_quiet_on)))
  refine wpQuiet_nil ?_
  rintro _ ⟨nq, rfl⟩
  go_wp2
  refine wp_region_chain [_, _, _, _, _, _] [_] rfl (by kernel_rfl) (by kernel_rfl) ?_
  repeat (first
    | go_big_quiet_skip
    | (go_big_quiet_want
       first
       | (refine quiet_mid 61 (.tmp 5) rfl _ _ rfl Y _ (fun _ ⟨n, e⟩ => e ▸ rangeAt_drewN (rangeAt_drewN hr nq) n) Try.underlying61 rfl hYs ?_
          go_big_quiet_on
          simp only [Act.put, List.setIfInBounds_toArray, List.set_cons_zero, List.set_cons_succ])
       | (go_big_quiet_op; go_big_quiet_on)))
  refine wpQuiet_nil ?_
  intro nq2
  refine wpList_store61 rfl _ _ _ rfl b rfl Y rfl _ rfl (hR1.later (belowDrew (belowDrew (Below.refl _ _) nq) nq2)) hk hkv (hv1.later (belowDrew (belowDrew (Below.refl _ _) nq) nq2)) ?_
  intro w' n' hm hn hsz hbl h1 h2 h3
  go_wp2
  refine bodyPost_end (v := .tuple #[]) (by simp [results, Try.results25, go_sem, Result.andThen]) rfl ⟨rfl, n', ⟨hm, fun k hk1 hk2 => ?_, h1.trans B1.os, h2.trans B1.tape, h3.trans B1.output, by rw [hsz]; exact B1.size⟩, hn⟩
  rw [hbl k hk2]; exact B1.block k hk1

set_option maxRecDepth 100000 in
set_option maxHeartbeats 1000000 in
theorem put_none (A b : Nat) (o : Option Nat) (R : Rec) (n : Nat) (S : List Int) (q : Int) (Y : List Value) (L : List (List Int)) (g c : Nat) (w : World) (hk : IsKey S q) (hY : Hid (Y = bcells S ++ [Value.int .u64 q])) (hv : Row w (.slice (some ⟨g, 0, none⟩) L.length c) L) (hA : w.heap[A]? = some (.cells #[.map (some b), .map o] 58 (0, 0))) (hR : IsMap w b R n) (hRS : R S q = none) (hn8 : n < 8192) :
    Calls Try.prog 25 #[.pointer (some ⟨A, 0, none⟩), .agg Y.toArray, .slice (some ⟨g, 0, none⟩) L.length c, .int .i64 16384] w fun e w' => e = .returned (.tuple #[]) ∧ ∃ n', Stored w w' (· = b) b (R.put S q L) n' ∧ n' ≤ n + 1 := by
  have B1 : Below w.heap.size w (w.alloc (.cells Y.toArray 61)) := (Below.refl _ _).alloc (Nat.le_refl _) _
  have hr := rangeAt_new w Y 61
  have hAl : A < w.heap.size := (Array.getElem?_eq_some_iff.1 hA).1
  have hYs : (Try.prog.info? 61).map (·.size) = some Y.length := by rw [hY.out]; exact Try.len61 hk.bytes.1
  have hkv : kv S q = .agg Y.toArray := by rw [hY.out]; rfl
  have hv1 := hv.later B1
  have q1 := Try.eqlSome b
  have q0 := Try.eqlNil
  have qm := Try.runMake
  have hA0 : (w.alloc (.cells Y.toArray 61)).cell? ⟨A, 0, none⟩ = some (.map (some b)) := by rw [World.cell?_alloc_past _ _ _ hAl, cell_of_row _ _ _ _ _ _ hA]; rfl
  have hR1 := hR.later B1
  obtain ⟨s1, c1, L1, l1, _, _, _⟩ := look_one (r := some b) hR1 hk
  rw [hkv, hRS] at l1
  simp only [Option.isSome_some, Option.isSome_none] at l1
  generalize L1.length = n1 at l1
  obtain ⟨es, clock, hes, hn, _⟩ := hR1.ex
  subst hn
  have hlen : ∀ k, (Builtin.len_ #[54] 3 #[.map (some b)]).run Try.prog ((w.alloc (.cells Y.toArray 61)).drewN k) = .ok (.int .i64 es.size) ((w.alloc (.cells Y.toArray 61)).drewN k) := fun k => run_len54 hes
  go_enter Try.func25, Try.ntmps25
  go_wp2
  generalize hw1 : w.alloc (.cells Y.toArray 61) = w1 at *
  have hs1 : w.heap.size < w1.heap.size := by rw [← hw1]; simp
  have hAlt : A < w1.heap.size := by omega
  have hAne : ¬ A = w1.heap.size := by omega
  refine wp_region_quiet_lit (by kernel_rfl) (by kernel_rfl) ?_
  repeat (first
    | go_big_quiet_skip
    | (go_big_quiet_want
       first
       | (refine quiet_mid 61 (.tmp 5) rfl _ _ rfl Y _ (fun _ ⟨n, e⟩ => e ▸ rangeAt_drewN hr n) Try.underlying61 rfl hYs ?_
          go_big_quiet_on
          simp only [Act.put, List.setIfInBounds_toArray, List.set_cons_zero, List.set_cons_succ])
       | (refine quiet_look 54 (.tmp 14) (.tmp 15) rfl _ _ rfl rfl _ (fun _ ⟨n, e⟩ => e ▸ l1 n) ?_
          go_big_quiet_on
          simp only [Act.put, List.setIfInBounds_toArray, List.set_cons_zero, List.set_cons_succ])
       | (go_big_quiet_op; go_big_quiet_on)))
  refine wpQuiet_nil ?_
  rintro _ ⟨nq, rfl⟩
  have hn8 : decide ((8192 : Int) ≤ (es.size : Int)) = false := by simp; omega
  go_wp2
  refine wp_region_chain [_, _, _, _, _, _] [_] rfl (by kernel_rfl) (by kernel_rfl) ?_
  repeat (first
    | go_big_quiet_skip
    | (go_big_quiet_want
       first
       | (refine quiet_mid 61 (.tmp 5) rfl _ _ rfl Y _ (fun _ ⟨n, e⟩ => e ▸ rangeAt_drewN (rangeAt_drewN hr nq) n) Try.underlying61 rfl hYs ?_
          go_big_quiet_on
          simp only [Act.put, List.setIfInBounds_toArray, List.set_cons_zero, List.set_cons_succ])
       | (go_big_quiet_op; go_big_quiet_on)))
  refine wpQuiet_nil ?_
  intro nq2
  refine wpList_store61 rfl _ _ _ rfl b rfl Y rfl _ rfl (hR1.later (belowDrew (belowDrew (Below.refl _ _) nq) nq2)) hk hkv (hv1.later (belowDrew (belowDrew (Below.refl _ _) nq) nq2)) ?_
  intro w' n' hm hn hsz hbl h1 h2 h3
  go_wp2
  refine bodyPost_end (v := .tuple #[]) (by simp [results, Try.results25, go_sem, Result.andThen]) rfl ⟨rfl, n', ⟨hm, fun k hk1 hk2 => ?_, h1.trans B1.os, h2.trans B1.tape, h3.trans B1.output, by rw [hsz]; exact B1.size⟩, hn⟩
  rw [hbl k hk2]; exact B1.block k hk1

theorem IsMap.keep {w w' : World} {b n : Nat} {m : Rec} (X : Nat → Prop) (h : IsMap w b m n) (hs : ∀ k, k < w.heap.size → ¬ X k → w'.heap[k]? = w.heap[k]?) (hb : ¬ X b) (hX : ∀ (g : Nat) (cs : Array Value) (z : Nat × Nat), X g → w.heap[g]? ≠ some (Obj.cells cs 23 z)) : IsMap w' b m n := by
  obtain ⟨es, clock, hg, hn, hd, hk, hm⟩ := h.ex
  refine ⟨es, clock, by rw [hs b (Array.getElem?_eq_some_iff.1 hg).1 hb]; exact hg, hn, hd, fun e he => ?_, hm⟩
  obtain ⟨S, q, L, a, b, c, r⟩ := hk e he
  obtain ⟨g, c', cs, e1, hg', r'⟩ := r.ex
  exact ⟨S, q, L, a, b, c, ⟨⟨g, c', cs, e1, by rw [hs g (Array.getElem?_eq_some_iff.1 hg').1 (fun hx => hX g cs _ hx hg')]; exact hg', r'⟩, r.ids, r.pos, r.le⟩⟩

theorem Row.keepX {w w' : World} {v : Value} {L : List (List Int)} (X : Nat → Prop) (h : Row w v L) (hs : ∀ k, k < w.heap.size → ¬ X k → w'.heap[k]? = w.heap[k]?) (hX : ∀ (g : Nat) (cs : Array Value) (z : Nat × Nat), X g → w.heap[g]? ≠ some (Obj.cells cs 23 z)) : Row w' v L := by
  obtain ⟨g, c', cs, e1, hg', r'⟩ := h.ex
  exact ⟨⟨g, c', cs, e1, by rw [hs g (Array.getElem?_eq_some_iff.1 hg').1 (fun hx => hX g cs _ hx hg')]; exact hg', r'⟩, h.ids, h.pos, h.le⟩

theorem heap_setCell_cells {w : World} {g i : Nat} {cs : Array Value} {t : TypeId} {z : Nat × Nat} (h : w.heap[g]? = some (.cells cs t z)) (v : Value) : (w.setCell ⟨g, i, none⟩ v).heap[g]? = some (.cells (cs.setIfInBounds i v) t z) := by
  simp [World.setCell, Array.getElem?_modify, h]

/-- A new map, m, is 'recent' now; 'older' is o. -/
def NewMap (w w' : World) (A : Nat) (o : Option Nat) (m : Rec) : Prop := ∃ nb n', w.heap.size ≤ nb ∧ w'.heap[A]? = some (.cells #[.map (some nb), .map o] 58 (0, 0)) ∧ Stored w w' (· = A) nb m n' ∧ n' ≤ 1

theorem isMap_new {w : World} {b clock : Nat} (h : w.heap[b]? = some (.map #[] clock)) : IsMap w b Rec.nil 0 :=
  ⟨#[], clock, h, rfl, by simp, by simp, fun S q L _ h => by simp [Rec.nil] at h⟩

theorem frozen_row {w : World} {g : Nat} {cs : Array Value} {t : TypeId} (h : w.heap[g]? = some (.cells cs t (0, 0))) (i : Nat) : w.frozen? ⟨g, i, none⟩ = false := by
  simp [World.frozen?, h]

set_option maxRecDepth 100000 in
set_option maxHeartbeats 1000000 in
theorem put_rot (A b : Nat) (o : Option Nat) (R : Rec) (n : Nat) (S : List Int) (q : Int) (Y : List Value) (L : List (List Int)) (g c : Nat) (w : World) (hk : IsKey S q) (hY : Hid (Y = bcells S ++ [Value.int .u64 q])) (hv : Row w (.slice (some ⟨g, 0, none⟩) L.length c) L) (hA : w.heap[A]? = some (.cells #[.map (some b), .map o] 58 (0, 0))) (hR : IsMap w b R n) (hRS : R S q = none) (hn8 : 8192 ≤ n) :
    Calls Try.prog 25 #[.pointer (some ⟨A, 0, none⟩), .agg Y.toArray, .slice (some ⟨g, 0, none⟩) L.length c, .int .i64 16384] w fun e w' => e = .returned (.tuple #[]) ∧ NewMap w w' A (some b) (Rec.nil.put S q L) := by
  have B1 : Below w.heap.size w (w.alloc (.cells Y.toArray 61)) := (Below.refl _ _).alloc (Nat.le_refl _) _
  have hr := rangeAt_new w Y 61
  have hAl : A < w.heap.size := (Array.getElem?_eq_some_iff.1 hA).1
  have hYs : (Try.prog.info? 61).map (·.size) = some Y.length := by rw [hY.out]; exact Try.len61 hk.bytes.1
  have hkv : kv S q = .agg Y.toArray := by rw [hY.out]; rfl
  have hv1 := hv.later B1
  have q1 := Try.eqlSome b
  have q0 := Try.eqlNil
  have qm := Try.runMake
  have hA0 : (w.alloc (.cells Y.toArray 61)).cell? ⟨A, 0, none⟩ = some (.map (some b)) := by rw [World.cell?_alloc_past _ _ _ hAl, cell_of_row _ _ _ _ _ _ hA]; rfl
  have hR1 := hR.later B1
  obtain ⟨s1, c1, L1, l1, _, _, _⟩ := look_one (r := some b) hR1 hk
  rw [hkv, hRS] at l1
  simp only [Option.isSome_some, Option.isSome_none] at l1
  generalize L1.length = n1 at l1
  obtain ⟨es, clock, hes, hn, _⟩ := hR1.ex
  subst hn
  have hlen : ∀ k, (Builtin.len_ #[54] 3 #[.map (some b)]).run Try.prog ((w.alloc (.cells Y.toArray 61)).drewN k) = .ok (.int .i64 es.size) ((w.alloc (.cells Y.toArray 61)).drewN k) := fun k => run_len54 hes
  have hA1 : (w.alloc (.cells Y.toArray 61)).cell? ⟨A, 1, none⟩ = some (.map o) := by rw [World.cell?_alloc_past _ _ _ hAl, cell_of_row _ _ _ _ _ _ hA]; rfl
  have f0 : (w.alloc (.cells Y.toArray 61)).frozen? ⟨A, 0, none⟩ = false := by rw [World.frozen?_alloc_past _ _ _ hAl]; exact frozen_row hA 0
  have f1 : (w.alloc (.cells Y.toArray 61)).frozen? ⟨A, 1, none⟩ = false := by rw [World.frozen?_alloc_past _ _ _ hAl]; exact frozen_row hA 1
  have hn8' : decide ((8192 : Int) ≤ (es.size : Int)) = true := by simp; omega
  go_enter Try.func25, Try.ntmps25
  go_wp2
  generalize hw1 : w.alloc (.cells Y.toArray 61) = w1 at *
  have hs1 : w.heap.size < w1.heap.size := by rw [← hw1]; simp
  have hAlt : A < w1.heap.size := by omega
  have hAne : ¬ A = w1.heap.size := by omega
  refine wp_region_quiet_lit (by kernel_rfl) (by kernel_rfl) ?_
  repeat (first
    | go_big_quiet_skip
    | (go_big_quiet_want
       first
       | (refine quiet_mid 61 (.tmp 5) rfl _ _ rfl Y _ (fun _ ⟨n, e⟩ => e ▸ rangeAt_drewN hr n) Try.underlying61 rfl hYs ?_
          go_big_quiet_on
          simp only [Act.put, List.setIfInBounds_toArray, List.set_cons_zero, List.set_cons_succ])
       | (refine quiet_look 54 (.tmp 14) (.tmp 15) rfl _ _ rfl rfl _ (fun _ ⟨n, e⟩ => e ▸ l1 n) ?_
          go_big_quiet_on
          simp only [Act.put, List.setIfInBounds_toArray, List.set_cons_zero, List.set_cons_succ])
       | (go_big_quiet_op; go_big_quiet_on)))
  refine wpQuiet_nil ?_
  rintro _ ⟨nq, rfl⟩
  go_wp2
  obtain ⟨W, hW⟩ : ∃ W, W = ((((w1.drewN nq).setCell ⟨A, 1, none⟩ (.map (some b))).setCell ⟨A, 0, none⟩ (.map none)).setCell ⟨A, 0, none⟩ (.map (some w1.heap.size))).alloc (.map #[] 0) := ⟨_, rfl⟩
  rw [← hW]
  have gA : w1.heap[A]? = some (.cells #[.map (some b), .map o] 58 (0, 0)) := (B1.block A hAl).trans hA
  have gW : W.heap[A]? = some (.cells #[.map (some w1.heap.size), .map (some b)] 58 (0, 0)) := by
    have hA1' : A < w1.heap.size := by omega
    rw [hW, Below.heap_alloc _ _ _ (by simpa using hA1')]
    exact heap_setCell_cells (heap_setCell_cells (heap_setCell_cells (w := w1.drewN nq) gA _) _) _
  have gO : ∀ k, k < w1.heap.size → ¬ k = A → W.heap[k]? = w1.heap[k]? := fun k hk1 hk2 => by
    rw [hW, Below.heap_alloc _ _ _ (by simpa using hk1)]
    exact ((Below.heap_setCell _ _ _ _ hk2).trans (Below.heap_setCell _ _ _ _ hk2)).trans (Below.heap_setCell (w1.drewN nq) _ _ _ hk2)
  have gN : W.heap[w1.heap.size]? = some (.map #[] 0) := by
    have e : ((((w1.drewN nq).setCell ⟨A, 1, none⟩ (.map (some b))).setCell ⟨A, 0, none⟩ (.map none)).setCell ⟨A, 0, none⟩ (.map (some w1.heap.size))).heap.size = w1.heap.size := by simp
    have h := heap_alloc_new ((((w1.drewN nq).setCell ⟨A, 1, none⟩ (.map (some b))).setCell ⟨A, 0, none⟩ (.map none)).setCell ⟨A, 0, none⟩ (.map (some w1.heap.size))) (.map #[] 0)
    rw [e] at h
    rw [hW]; exact h
  have gS : W.heap.size = w1.heap.size + 1 := by rw [hW]; simp [World.setCell, World.alloc]
  have gX : ∀ (g : Nat) (cs : Array Value) (z : Nat × Nat), g = A → w1.heap[g]? ≠ some (Obj.cells cs 23 z) := fun g cs z e => by
    subst e; rw [gA]; simp
  have rowW := hv1.keepX (w' := W) (· = A) gO gX
  have mapW := isMap_new gN
  have cW : W.cell? ⟨A, 0, none⟩ = some (.map (some w1.heap.size)) := by rw [cell_of_row _ _ _ _ _ _ gW]; rfl
  have rW : W.rangeAt w.heap.size 0 Y := fun j v hv => by
    have e : ¬ w.heap.size = A := by omega
    have := World.cell?_of_block (w := w1) (w' := W) (a := ⟨w.heap.size, 0 + j, none⟩) (gO _ hs1 e)
    rw [this]; exact hr j v hv
  have oW : W.os = w.os ∧ W.tape = w.tape ∧ W.output = w.output := by rw [hW]; exact ⟨B1.os, B1.tape, B1.output⟩
  clear hW
  refine wp_region_chain [_, _, _, _, _, _] [_] rfl (by kernel_rfl) (by kernel_rfl) ?_
  repeat (first
    | go_big_quiet_skip
    | (go_big_quiet_want
       first
       | (refine quiet_mid 61 (.tmp 5) rfl _ _ rfl Y _ (fun _ ⟨n, e⟩ => e ▸ rangeAt_drewN rW n) Try.underlying61 rfl hYs ?_
          go_big_quiet_on
          simp only [Act.put, List.setIfInBounds_toArray, List.set_cons_zero, List.set_cons_succ])
       | (go_big_quiet_op; go_big_quiet_on)))
  refine wpQuiet_nil ?_
  intro nq2
  refine wpList_store61 rfl _ _ _ rfl w1.heap.size rfl Y rfl _ rfl (mapW.later (belowDrew (Below.refl _ _) nq2)) hk hkv (rowW.later (belowDrew (Below.refl _ _) nq2)) ?_
  intro w' n' hm hn hsz hbl h1 h2 h3
  go_wp2
  refine bodyPost_end (v := .tuple #[]) (by simp [results, Try.results25, go_sem, Result.andThen]) rfl ⟨rfl, ?_⟩
  unfold NewMap
  refine ⟨w1.heap.size, n', by omega, ?_, ⟨hm, fun k hk1 hk2 => ?_, h1.trans oW.1, h2.trans oW.2.1, h3.trans oW.2.2, ?_⟩, by omega⟩
  · rw [hbl A (by omega)]; exact gW
  · rw [hbl k (by omega)]
    exact (gO k (by omega) hk2).trans (B1.block k hk1)
  · rw [hsz]; show w.heap.size ≤ W.heap.size; omega

set_option maxRecDepth 100000 in
set_option maxHeartbeats 1000000 in
theorem put_new (A b : Nat) (o : Option Nat) (R : Rec) (n : Nat) (S : List Int) (q : Int) (Y : List Value) (L : List (List Int)) (g c : Nat) (w : World) (hk : IsKey S q) (hY : Hid (Y = bcells S ++ [Value.int .u64 q])) (hv : Row w (.slice (some ⟨g, 0, none⟩) L.length c) L) (hA : w.heap[A]? = some (.cells #[.map none, .map o] 58 (0, 0))) :
    Calls Try.prog 25 #[.pointer (some ⟨A, 0, none⟩), .agg Y.toArray, .slice (some ⟨g, 0, none⟩) L.length c, .int .i64 16384] w fun e w' => e = .returned (.tuple #[]) ∧ NewMap w w' A o (Rec.nil.put S q L) := by
  have B1 : Below w.heap.size w (w.alloc (.cells Y.toArray 61)) := (Below.refl _ _).alloc (Nat.le_refl _) _
  have hr := rangeAt_new w Y 61
  have hAl : A < w.heap.size := (Array.getElem?_eq_some_iff.1 hA).1
  have hYs : (Try.prog.info? 61).map (·.size) = some Y.length := by rw [hY.out]; exact Try.len61 hk.bytes.1
  have hkv : kv S q = .agg Y.toArray := by rw [hY.out]; rfl
  have hv1 := hv.later B1
  have q1 := Try.eqlSome b
  have q0 := Try.eqlNil
  have qm := Try.runMake
  have hA0 : (w.alloc (.cells Y.toArray 61)).cell? ⟨A, 0, none⟩ = some (.map none) := by rw [World.cell?_alloc_past _ _ _ hAl, cell_of_row _ _ _ _ _ _ hA]; rfl
  obtain ⟨s1, c1, L1, l1, _, _, _⟩ := look_one (w := w.alloc (.cells Y.toArray 61)) (r := none) (m := Rec.nil) (n := 0) ⟨rfl, rfl⟩ hk
  rw [hkv] at l1
  simp only [Rec.nil, Option.isSome_none] at l1
  generalize L1.length = n1 at l1
  have hlen : ∀ k, (Builtin.len_ #[54] 3 #[.map none]).run Try.prog ((w.alloc (.cells Y.toArray 61)).drewN k) = .ok (.int .i64 0) ((w.alloc (.cells Y.toArray 61)).drewN k) := fun k => rfl
  have f0 : (w.alloc (.cells Y.toArray 61)).frozen? ⟨A, 0, none⟩ = false := by rw [World.frozen?_alloc_past _ _ _ hAl]; exact frozen_row hA 0
  go_enter Try.func25, Try.ntmps25
  go_wp2
  generalize hw1 : w.alloc (.cells Y.toArray 61) = w1 at *
  have hs1 : w.heap.size < w1.heap.size := by rw [← hw1]; simp
  have hAlt : A < w1.heap.size := by omega
  have hAne : ¬ A = w1.heap.size := by omega
  refine wp_region_quiet_lit (by kernel_rfl) (by kernel_rfl) ?_
  repeat (first
    | go_big_quiet_skip
    | (go_big_quiet_want
       first
       | (refine quiet_mid 61 (.tmp 5) rfl _ _ rfl Y _ (fun _ ⟨n, e⟩ => e ▸ rangeAt_drewN hr n) Try.underlying61 rfl hYs ?_
          go_big_quiet_on
          simp only [Act.put, List.setIfInBounds_toArray, List.set_cons_zero, List.set_cons_succ])
       | (refine quiet_look 54 (.tmp 14) (.tmp 15) rfl _ _ rfl rfl _ (fun _ ⟨n, e⟩ => e ▸ l1 n) ?_
          go_big_quiet_on
          simp only [Act.put, List.setIfInBounds_toArray, List.set_cons_zero, List.set_cons_succ])
       | (go_big_quiet_op; go_big_quiet_on)))
  refine wpQuiet_nil ?_
  rintro _ ⟨nq, rfl⟩
  have fq : ((w1.drewN nq).alloc (.map #[] 0)).frozen? ⟨A, 0, none⟩ = false := by rw [World.frozen?_alloc_past _ _ _ (by simpa using hAlt)]; exact f0
  have fc : ((w1.drewN nq).alloc (.map #[] 0)).cell? ⟨A, 0, none⟩ = some (.map none) := by rw [World.cell?_alloc_past _ _ _ (by simpa using hAlt)]; exact hA0
  go_wp2
  obtain ⟨W, hW⟩ : ∃ W, W = ((w1.drewN nq).alloc (.map #[] 0)).setCell ⟨A, 0, none⟩ (.map (some w1.heap.size)) := ⟨_, rfl⟩
  rw [← hW]
  have gA : w1.heap[A]? = some (.cells #[.map none, .map o] 58 (0, 0)) := (B1.block A hAl).trans hA
  have gW : W.heap[A]? = some (.cells #[.map (some w1.heap.size), .map o] 58 (0, 0)) := by
    have hA1' : A < w1.heap.size := by omega
    rw [hW]
    exact heap_setCell_cells ((Below.heap_alloc (w1.drewN nq) _ _ (by simpa using hA1')).trans gA) _
  have gO : ∀ k, k < w1.heap.size → ¬ k = A → W.heap[k]? = w1.heap[k]? := fun k hk1 hk2 => by
    rw [hW]
    exact (Below.heap_setCell _ _ _ _ hk2).trans (Below.heap_alloc (w1.drewN nq) _ _ (by simpa using hk1))
  have gN : W.heap[w1.heap.size]? = some (.map #[] 0) := by
    rw [hW]; exact (Below.heap_setCell _ _ _ _ (Ne.symm hAne)).trans (heap_alloc_new (w1.drewN nq) _)
  have gS : W.heap.size = w1.heap.size + 1 := by rw [hW]; simp [World.setCell, World.alloc]
  have gX : ∀ (g : Nat) (cs : Array Value) (z : Nat × Nat), g = A → w1.heap[g]? ≠ some (Obj.cells cs 23 z) := fun g cs z e => by
    subst e; rw [gA]; simp
  have rowW := hv1.keepX (w' := W) (· = A) gO gX
  have mapW := isMap_new gN
  have cW : W.cell? ⟨A, 0, none⟩ = some (.map (some w1.heap.size)) := by rw [cell_of_row _ _ _ _ _ _ gW]; rfl
  have rW : W.rangeAt w.heap.size 0 Y := fun j v hv => by
    have e : ¬ w.heap.size = A := by omega
    have := World.cell?_of_block (w := w1) (w' := W) (a := ⟨w.heap.size, 0 + j, none⟩) (gO _ hs1 e)
    rw [this]; exact hr j v hv
  have oW : W.os = w.os ∧ W.tape = w.tape ∧ W.output = w.output := by rw [hW]; exact ⟨B1.os, B1.tape, B1.output⟩
  clear hW
  refine wp_region_chain [_, _, _, _, _, _] [_] rfl (by kernel_rfl) (by kernel_rfl) ?_
  repeat (first
    | go_big_quiet_skip
    | (go_big_quiet_want
       first
       | (refine quiet_mid 61 (.tmp 5) rfl _ _ rfl Y _ (fun _ ⟨n, e⟩ => e ▸ rangeAt_drewN rW n) Try.underlying61 rfl hYs ?_
          go_big_quiet_on
          simp only [Act.put, List.setIfInBounds_toArray, List.set_cons_zero, List.set_cons_succ])
       | (go_big_quiet_op; go_big_quiet_on)))
  refine wpQuiet_nil ?_
  intro nq2
  refine wpList_store61 rfl _ _ _ rfl w1.heap.size rfl Y rfl _ rfl (mapW.later (belowDrew (Below.refl _ _) nq2)) hk hkv (rowW.later (belowDrew (Below.refl _ _) nq2)) ?_
  intro w' n' hm hn hsz hbl h1 h2 h3
  go_wp2
  refine bodyPost_end (v := .tuple #[]) (by simp [results, Try.results25, go_sem, Result.andThen]) rfl ⟨rfl, ?_⟩
  unfold NewMap
  refine ⟨w1.heap.size, n', by omega, ?_, ⟨hm, fun k hk1 hk2 => ?_, h1.trans oW.1, h2.trans oW.2.1, h3.trans oW.2.2, ?_⟩, by omega⟩
  · rw [hbl A (by omega)]; exact gW
  · rw [hbl k (by omega)]
    exact (gO k (by omega) hk2).trans (B1.block k hk1)
  · rw [hsz]; show w.heap.size ≤ W.heap.size; omega
end Go.Proofs.Qxb6602021a
