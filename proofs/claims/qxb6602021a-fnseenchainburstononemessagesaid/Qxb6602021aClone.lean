/- cloneCalls: rows of cells copied. -/
import Derived.Test.Qxb6602021aZb
import Derived.Lib.SmallJoins
namespace Go.Proofs.Qxb6602021a
open Go.ChangeShapes Go.WideShapes Go.ChangeAt Go.RowKit
set_option linter.unusedVariables false
set_option linter.unusedSimpArgs false

/-- s is the address of rows, each of z cells. -/
structure RowsAt (w : World) (s : Option Addr) (z : Nat) (cs : List (List Value)) : Prop where
  addr : 0 < cs.length → ∃ g o, s = some ⟨g, o, none⟩
  cells : ∀ g o, s = some ⟨g, o, none⟩ → ∀ i x, cs[i]? = some x → w.rangeAt g (o + i * z) x
  len : ∀ x ∈ cs, x.length = z
  one : ∀ x ∈ cs, ∀ v ∈ x, v.oneCell' = true

theorem RowsAt.later {w w' : World} {s : Option Addr} {z : Nat} {cs : List (List Value)} (h : RowsAt w s z cs) (hb : Below w.heap.size w w') : RowsAt w' s z cs :=
  ⟨h.addr, fun g o hg i x hx => rangeAt_later (h.cells g o hg i x hx) hb, h.len, h.one⟩

/-- 'make([]T, n)' as a law of the walk, the new world written out. -/
theorem wpList_make_at {P : Program} (w : World) {ops : Array Oper} {rest : List Oper} {o : Oper} {a : Act} {Q : Exit → Act → World → Prop}
    (hg : o.guard = none) (l c : Operand) (t : TypeId) (hop : o.op = Op.makeSlice t l c)
    (e : TypeId) (z : Value) (size bytes : Nat) (h1 : P.underlying t = some (.slice e)) (h2 : (P.info? e).map (fun i => (i.zero, i.size, i.bytes)) = some (some z, size, bytes))
    (kl kc : IntKind) (L C : Int) (n : Nat) (hl : a.eval l = .int kl L) (hc : a.eval c = .int kc C) (hL : L = (n : Int)) (hC : C = (n : Int)) (b2 : bytes * n ≤ 281474976710656) (b3 : n ≤ 9223372036854775807)
    (hK : wpList P ops Q rest (a.put o.dst (.slice (some ⟨w.heap.size, 0, none⟩) n n)) (w.alloc (.cells (madeCells z.cells (n * size)) e))) :
    wpList P ops Q (o :: rest) a w := by
  refine wpList_plain hg fun K hK' => ?_
  obtain ⟨i, hi, hz⟩ := Option.map_eq_some_iff.1 h2
  simp only [Prod.mk.injEq] at hz
  obtain ⟨hz0, hz1, hz2⟩ := hz
  subst hL; subst hC; subst hz1; subst hz2
  have hb : (i.bytes : Int) * ((n : Nat) : Int) ≤ 281474976710656 := by
    have h : ((i.bytes * n : Nat) : Int) ≤ 281474976710656 := by omega
    rwa [Int.natCast_mul] at h
  have hrun := run_make (P := P) w t e i z h1 hi hz0 kl kc n n (by omega) (by omega) hb (by omega)
  simp only [Int.toNat_natCast] at hrun
  unfold Oper.wp
  simp [execOp, hop, hl, hc, hrun, Result.andThen]
  exact hK' _ _ hK

def zero33 : Value := .agg (bcells (List.replicate 16 0) ++ [Value.int .u64 0] ++ bcells (List.replicate 16 0)).toArray
theorem info42 : (Try.prog.info? 42).map (fun i => (i.zero, i.size, i.bytes)) = some (some zero33, 33, 40) := by kernel_rfl
theorem len42 {x : List Value} (h : x.length = 33) : (Try.prog.info? 42).map (·.size) = some x.length := by rw [h]; kernel_rfl

theorem there_new (w : World) (cs : Array Value) (t : TypeId) : (w.alloc (.cells cs t)).there w.heap.size 0 cs.size := fun j hj => by
  refine ⟨?_, World.frozen?_alloc_at _ _ _ _ rfl⟩
  rw [World.cell?_alloc_at _ _ _ _ rfl]
  simp [hj]

theorem there_made (w : World) (z : Array Value) (n : Nat) (t : TypeId) : (w.alloc (.cells (madeCells z n) t)).there w.heap.size 0 n := by
  have := there_new w (madeCells z n) t
  rwa [size_madeCells] at this

theorem there_sub {w : World} {b n o m : Nat} (h : w.there b 0 n) (hm : o + m ≤ n) : w.there b o m := fun j hj => by
  have := h (o + j) (by omega)
  simpa using this

theorem below_setCells {B b : Nat} {w0 w : World} (h : Below B w0 w) (hb : B ≤ b) : ∀ (vs : List Value) (o : Nat), Below B w0 (w.setCells b o vs)
  := fun vs o => by
    induction vs generalizing w o with
    | nil => exact h
    | cons v r ih => rw [World.setCells]; exact ih (h.setCell (by simpa using hb) v) (o + 1)

set_option maxRecDepth 100000 in
set_option maxHeartbeats 1000000 in
theorem cloneCalls_nil (w : World) : Calls Try.prog 12 #[.slice none 0 0] w fun e w' => e = .returned (.slice none 0 0) ∧ w' = w := by
  have q : ∀ (w : World) (a : Option Addr) (n c n' c' : Nat), (binOp .eql 33 (.slice a n c) (.slice none n' c')).run Try.prog w = .ok (.bool a.isNone) w := fun w a n c n' c' => Lib.run_eql_slice_nil w _ _ a n c n' c' Try.underlying33
  go_enter Try.func12, Try.ntmps12
  go_wp2
  go_ret
  exact ⟨rfl, rfl⟩

set_option maxRecDepth 100000 in
set_option maxHeartbeats 1000000 in
theorem cloneCalls_some (g o n c : Nat) (cs : List (List Value)) (w : World) (hn : n ≤ 1048576) (hl : cs.length = n) (hR : RowsAt w (some ⟨g, o, none⟩) 33 cs) :
    Calls Try.prog 12 #[.slice (some ⟨g, o, none⟩) n c] w fun e w' => e = .returned (.slice (some ⟨w.heap.size, 0, none⟩) n n) ∧ RowsAt w' (some ⟨w.heap.size, 0, none⟩) 33 cs ∧ w.heap.size < w'.heap.size ∧ Below w.heap.size w w' := by
  have hb : 40 * n ≤ 281474976710656 := by omega
  have hb2 : n ≤ 9223372036854775807 := by omega
  have q : ∀ (w : World) (a : Option Addr) (n c n' c' : Nat), (binOp .eql 33 (.slice a n c) (.slice none n' c')).run Try.prog w = .ok (.bool a.isNone) w := fun w a n c n' c' => Lib.run_eql_slice_nil w _ _ a n c n' c' Try.underlying33
  have Hl : Hid (cs.length = n) := hl
  clear hl
  go_enter Try.func12, Try.ntmps12
  go_wp2_with (at_make; refine wpList_make_at _ rfl _ _ 33 rfl 42 _ _ _ Try.underlying33 info42 _ _ _ _ n rfl rfl rfl rfl hb hb2 ?_)
  go_loopg [4] n (fun g i wr => ∃ k : Nat, k + g = n ∧ i = .int .i64 k ∧ Below w.heap.size w wr ∧ w.heap.size < wr.heap.size ∧ wr.there w.heap.size 0 (n * 33) ∧ (∀ i x, i < k → cs[i]? = some x → wr.rangeAt w.heap.size (i * 33) x))
  case atStart => exact ⟨0, by omega, rfl, (Below.refl _ _).alloc (Nat.le_refl _) _, by simp, there_made w _ _ _, fun i x hi => by omega⟩
  case round =>
    obtain ⟨k, hk, rfl, B, hs, hth, hrows⟩ := hrel
    have Hk : Hid (k + gk = n) := hk
    have hk' : k ≤ n := by omega
    have Hrows : Hid (∀ i x, i < k → cs[i]? = some x → wr.rangeAt w.heap.size (i * 33) x) := hrows
    clear hk hrows
    by_cases hlt : k < n
    · have hd : decide ((k : Int) < (n : Int)) = true := by simp; omega
      have hkl : k < cs.length := by have := Hl.out; omega
      have hx : cs[k]? = some cs[k] := List.getElem?_eq_getElem hkl
      have hx33 := hR.len cs[k] (List.getElem_mem _)
      have hx1 := hR.one cs[k] (List.getElem_mem _)
      have hrow := rangeAt_later (hR.cells g o rfl k _ hx) B
      generalize cs[k] = x at hx hx33 hx1 hrow
      have Hx : Hid (cs[k]? = some x) := hx
      have Hx1 : Hid (∀ v ∈ x, v.oneCell' = true) := hx1
      have Hx33 : Hid (x.length = 33) := hx33
      clear hx hx1 hx33
      have ht : wr.there w.heap.size (k * 33) x.toArray.size := by
        have e : x.toArray.size = 33 := by simpa using Hx33.out
        rw [e]; exact there_sub hth (by omega)
      go_wp2_with (first
        | (refine wpList_load_mid rfl 42 (.tmp 20) rfl _ _ rfl x _ hrow Try.underlying42 rfl (len42 Hx33.out) ?_)
        | (refine wpList_store_mid rfl 42 (.tmp 22) (.tmp 21) rfl _ _ x.toArray rfl rfl ht (by simpa using len42 Hx33.out) (all_oneCell_toArray Hx1.out) ?_))
      go_roundg (gk - 1)
      case rel =>
        have := Hk.out
        refine ⟨k + 1, by omega, by go_num, below_setCells B (Nat.le_refl _) _ _, ?_, World.there_setCells hth _ _ _, ?_⟩
        · have := (below_setCells (Below.refl _ wr) (Nat.zero_le _) x (k * 33) (b := w.heap.size) (B := 0)).size
          omega
        · intro i y hi hy
          by_cases e : i = k
          · subst e
            rw [Hx.out] at hy
            injection hy with hy
            subst hy
            exact World.rangeAt_setCells_same _ _ _ _ (by simpa using ht)
          · refine World.rangeAt_setCells_apart (Hrows.out i y (by omega) hy) _ _ _ (.inr (.inl ?_))
            have := hR.len y (List.mem_of_getElem? hy)
            omega
      case measure => have := Hk.out; omega
    · have hd : decide ((k : Int) < (n : Int)) = false := by simp; omega
      go_wp2
      go_ret
      refine ⟨rfl, ⟨fun _ => ⟨_, _, rfl⟩, fun g' o' e i x hx => ?_, hR.len, hR.one⟩, hs, B⟩
      injection e with e
      injection e with e1 e2
      subst e1 e2
      rw [Nat.zero_add]
      have := (List.getElem?_eq_some_iff.1 hx).1
      have hl := Hl.out
      exact Hrows.out i x (by omega) hx
end Go.Proofs.Qxb6602021a
