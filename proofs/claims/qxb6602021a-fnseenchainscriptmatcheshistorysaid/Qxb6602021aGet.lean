/- A 'seen': what it holds; get. -/
import Derived.Test.Qxb6602021aIdx
namespace Go.Proofs.Qxb6602021a
open Go.ChangeShapes Go.WideShapes Go.ChangeAt Go.RowKit
set_option linter.unusedVariables false
set_option linter.unusedSimpArgs false

/-- Block A is a 'seen' whose 'recent' holds R, in n entries, and whose 'older' holds O; none of the blocks F is written by it. -/
structure Seen (F : Nat → Prop) (w : World) (A : Nat) (R O : Rec) (n : Nat) : Prop where
  ex : ∃ r o no, w.heap[A]? = some (.cells #[.map r, .map o] 58 (0, 0)) ∧ MapAt w r R n ∧ MapAt w o O no ∧ ∀ b, r = some b → ¬ F b ∧ o ≠ some b
  fA : ¬ F A
  lt : ∀ k, F k → k < w.heap.size

/-- Of the blocks F nothing turns. -/
structure Kept (F : Nat → Prop) (w w' : World) : Prop where
  os : w'.os = w.os
  tape : w'.tape = w.tape
  output : w'.output = w.output
  size : w.heap.size ≤ w'.heap.size
  block : ∀ k, F k → w'.heap[k]? = w.heap[k]?

theorem Kept.trans {F : Nat → Prop} {a b c : World} (h : Kept F a b) (k : Kept F b c) : Kept F a c :=
  ⟨k.os.trans h.os, k.tape.trans h.tape, k.output.trans h.output, Nat.le_trans h.size k.size, fun i hi => (k.block i hi).trans (h.block i hi)⟩
theorem Kept.refl (F : Nat → Prop) (w : World) : Kept F w w := ⟨rfl, rfl, rfl, Nat.le_refl _, fun _ _ => rfl⟩
theorem Kept.of_below {F : Nat → Prop} {w w' : World} {B : Nat} (h : Below B w w') (hF : ∀ k, F k → k < B) : Kept F w w' :=
  ⟨h.os, h.tape, h.output, h.size, fun k hk => h.block k (hF k hk)⟩
theorem Kept.mono {F G : Nat → Prop} {w w' : World} (h : Kept F w w') (hG : ∀ k, G k → F k) : Kept G w w' :=
  ⟨h.os, h.tape, h.output, h.size, fun k hk => h.block k (hG k hk)⟩

theorem Seen.later {F : Nat → Prop} {w w' : World} {A n : Nat} {R O : Rec} (h : Seen F w A R O n) (hb : Below w.heap.size w w') : Seen F w' A R O n := by
  obtain ⟨r, o, no, hA, hr, ho, hF⟩ := h.ex
  exact ⟨⟨r, o, no, by rw [hb.block A (Array.getElem?_eq_some_iff.1 hA).1]; exact hA, hr.later hb, ho.later hb, hF⟩, h.fA, fun k hk => Nat.lt_of_lt_of_le (h.lt k hk) hb.size⟩

theorem Seen.lt_A {F : Nat → Prop} {w : World} {A n : Nat} {R O : Rec} (h : Seen F w A R O n) : A < w.heap.size := by
  obtain ⟨r, o, no, hA, _⟩ := h.ex
  exact (Array.getElem?_eq_some_iff.1 hA).1

/-- A new block may be added to the blocks that it leaves alone. -/
theorem Seen.also {F G : Nat → Prop} {w w' : World} {A n : Nat} {R O : Rec} (h : Seen F w A R O n) (hb : Below w.heap.size w w') (hG : ∀ k, G k → F k ∨ w.heap.size ≤ k) (hlt : ∀ k, G k → k < w'.heap.size) : Seen G w' A R O n := by
  obtain ⟨r, o, no, hA, hr, ho, hF⟩ := h.ex
  have hAl := h.lt_A
  refine ⟨⟨r, o, no, by rw [hb.block A hAl]; exact hA, hr.later hb, ho.later hb, fun b e => ⟨fun hg => ?_, (hF b e).2⟩⟩, fun hg => ?_, hlt⟩
  · rcases hG b hg with h1 | h1
    · exact (hF b e).1 h1
    · subst e
      obtain ⟨es, clock, hb', _⟩ := IsMap.ex hr
      have := (Array.getElem?_eq_some_iff.1 hb').1
      omega
  · rcases hG A hg with h1 | h1
    · exact h.fA h1
    · omega

/-- What get finds. -/
def look (R O : Rec) (S : List Int) (q : Int) : Option (List (List Int)) := match R S q with | some L => some L | none => O S q

theorem quiet_look {P : Program} {C : World → Prop} {o : Oper} {a : Act} {K : Act → Prop} (t : TypeId) (m k : Operand) (ho : o.op = .lookup t m k true) (mv kk : Value) (hm : a.eval m = mv) (hkk : a.eval k = kk) (v : Value)
    (hrun : ∀ w, C w → (Instr.lookup t mv kk true).run P w = .ok v w) (hk : K (a.put o.dst v)) : o.quiet P a C K :=
  ⟨v, fun w hw => by
    unfold Oper.quietAt execOp
    simp only [ho, hm, hkk, Sem.run_bind, hrun w hw, Result.andThen_ok, Sem.run_pure]
    exact ⟨rfl, rfl⟩, hk⟩

theorem Try.len61 {S : List Int} {q : Int} (h : S.length = 16) : (Try.prog.info? 61).map (·.size) = some (bcells S ++ [Value.int .u64 q]).length := by
  have e : (bcells S ++ [Value.int .u64 q]).length = 17 := by simp [bcells, h]
  have k : (Try.prog.info? 61).map (·.size) = some 17 := by kernel_rfl
  rw [e]; exact k

/-- A look-up, its value as a slice of identities; in every later world the same. -/
theorem look_all {w : World} {r : Option Nat} {m : Rec} {n : Nat} (h : MapAt w r m n) {S : List Int} {q : Int} (hk : IsKey S q) :
    ∃ s c L, (∀ w', Below w.heap.size w w' → (Instr.lookup 54 (.map r) (kv S q) true).run Try.prog w' = .ok (.tuple #[.slice s L.length c, .bool (m S q).isSome]) w') ∧ L = (m S q).getD [] ∧ Ids w s L ∧ L.length ≤ c := by
  have hb : ∀ w', Below w.heap.size w w' → ∀ b, r = some b → w'.heap[b]? = w.heap[b]? := fun w' B b e => by
    subst e
    obtain ⟨es, clock, hg, _⟩ := IsMap.ex h
    exact B.block b (Array.getElem?_eq_some_iff.1 hg).1
  rcases run_look h hk with ⟨hn, hr⟩ | ⟨L, v, hm, hrow, hr⟩
  · refine ⟨none, 0, [], fun w' B => by rw [hr w' (hb w' B), hn]; rfl, by rw [hn]; rfl, ⟨fun h => by simp at h, fun g hg => by simp at hg, by simp, by simp⟩, by simp⟩
  · obtain ⟨g, c, rfl, hc, hI⟩ := hrow.ids'
    exact ⟨_, c, L, fun w' B => by rw [hr w' (hb w' B), hm]; rfl, by rw [hm]; rfl, hI, hc⟩

theorem look_one {w : World} {r : Option Nat} {m : Rec} {n : Nat} (h : MapAt w r m n) {S : List Int} {q : Int} (hk : IsKey S q) :
    ∃ s c L, (∀ k, (Instr.lookup 54 (.map r) (kv S q) true).run Try.prog (w.drewN k) = .ok (.tuple #[.slice s L.length c, .bool (m S q).isSome]) (w.drewN k)) ∧ L = (m S q).getD [] ∧ Ids w s L ∧ L.length ≤ c := by
  obtain ⟨s, c, L, h1, h2⟩ := look_all h hk
  exact ⟨s, c, L, fun k => h1 _ (belowDrew (Below.refl _ _) k), h2⟩

set_option maxRecDepth 100000 in
set_option maxHeartbeats 1000000 in
theorem get_some (A : Nat) (r o : Option Nat) (s1 : Option Addr) (n1 c1 : Nat) (S : List Int) (q : Int) (Y : List Value) (w : World) (hA0 : w.heap[A]? = some (.cells #[.map r, .map o] 58 (0, 0))) (hk : IsKey S q) (hY : Hid (Y = bcells S ++ [Value.int .u64 q]))
    (l0 : ∀ w', Below w.heap.size w w' → (Instr.lookup 54 (.map r) (kv S q) true).run Try.prog w' = .ok (.tuple #[.slice s1 n1 c1, .bool true]) w') :
    Calls Try.prog 23 #[.pointer (some ⟨A, 0, none⟩), .agg Y.toArray] w fun e w' => e = .returned (.tuple #[.slice s1 n1 c1, .bool true]) ∧ Below w.heap.size w w' := by
  have B1 : Below w.heap.size w (w.alloc (.cells Y.toArray 61)) := (Below.refl _ _).alloc (Nat.le_refl _) _
  have hr := rangeAt_new w Y 61
  have hA : (w.alloc (.cells Y.toArray 61)).heap[A]? = some (.cells #[.map r, .map o] 58 (0, 0)) := (B1.block A (Array.getElem?_eq_some_iff.1 hA0).1).trans hA0
  clear hA0
  have hA0 : (w.alloc (.cells Y.toArray 61)).cell? ⟨A, 0, none⟩ = some (.map r) := by rw [cell_of_row _ _ _ _ _ _ hA]; rfl
  have hA1 : (w.alloc (.cells Y.toArray 61)).cell? ⟨A, 1, none⟩ = some (.map o) := by rw [cell_of_row _ _ _ _ _ _ hA]; rfl
  have hYs : (Try.prog.info? 61).map (·.size) = some Y.length := by rw [hY.out]; exact Try.len61 hk.bytes.1
  have hkv : kv S q = .agg Y.toArray := by rw [hY.out]; rfl
  go_enter Try.func23, Try.ntmps23
  go_wp2
  generalize w.alloc (.cells Y.toArray 61) = w1 at *
  have l1 : ∀ k, (Instr.lookup 54 (.map r) (.agg Y.toArray) true).run Try.prog (w1.drewN k) = .ok (.tuple #[.slice s1 n1 c1, .bool true]) (w1.drewN k) := fun k => by
    rw [← hkv]; exact l0 _ ((belowDrew B1 k))
  clear l0
  refine wp_region_quiet_lit (by kernel_rfl) (by kernel_rfl) ?_
  repeat (first
    | go_big_quiet_skip
    | (go_big_quiet_want
       first
       | (refine quiet_mid 61 (.tmp 3) rfl _ _ rfl Y _ (fun _ ⟨n, e⟩ => e ▸ rangeAt_drewN hr n) Try.underlying61 rfl hYs ?_
          go_big_quiet_on
          simp only [Act.put, List.setIfInBounds_toArray, List.set_cons_zero, List.set_cons_succ])
       | (refine quiet_look 54 (.tmp 14) (.tmp 15) rfl _ _ rfl rfl _ (fun _ ⟨n, e⟩ => e ▸ l1 n) ?_
          go_big_quiet_on
          simp only [Act.put, List.setIfInBounds_toArray, List.set_cons_zero, List.set_cons_succ])
       | (go_big_quiet_op; go_big_quiet_on)))
  refine wpQuiet_nil ?_
  rintro _ ⟨nq, rfl⟩
  go_wp2
  refine bodyPost_ret (v := .tuple #[.slice s1 n1 c1, .bool true]) (by simp [results, Try.results23, go_sem, Result.andThen]) rfl ⟨rfl, (belowDrew B1 _)⟩

set_option maxRecDepth 100000 in
set_option maxHeartbeats 1000000 in
theorem get_none (A : Nat) (r o : Option Nat) (s1 s2 : Option Addr) (n1 c1 n2 c2 : Nat) (ok : Bool) (S : List Int) (q : Int) (Y : List Value) (w : World) (hA0 : w.heap[A]? = some (.cells #[.map r, .map o] 58 (0, 0))) (hk : IsKey S q) (hY : Hid (Y = bcells S ++ [Value.int .u64 q]))
    (l0 : ∀ w', Below w.heap.size w w' → (Instr.lookup 54 (.map r) (kv S q) true).run Try.prog w' = .ok (.tuple #[.slice s1 n1 c1, .bool false]) w')
    (l3 : ∀ w', Below w.heap.size w w' → (Instr.lookup 54 (.map o) (kv S q) true).run Try.prog w' = .ok (.tuple #[.slice s2 n2 c2, .bool ok]) w') :
    Calls Try.prog 23 #[.pointer (some ⟨A, 0, none⟩), .agg Y.toArray] w fun e w' => e = .returned (.tuple #[.slice s2 n2 c2, .bool ok]) ∧ Below w.heap.size w w' := by
  have B1 : Below w.heap.size w (w.alloc (.cells Y.toArray 61)) := (Below.refl _ _).alloc (Nat.le_refl _) _
  have hr := rangeAt_new w Y 61
  have hA : (w.alloc (.cells Y.toArray 61)).heap[A]? = some (.cells #[.map r, .map o] 58 (0, 0)) := (B1.block A (Array.getElem?_eq_some_iff.1 hA0).1).trans hA0
  clear hA0
  have hA0 : (w.alloc (.cells Y.toArray 61)).cell? ⟨A, 0, none⟩ = some (.map r) := by rw [cell_of_row _ _ _ _ _ _ hA]; rfl
  have hA1 : (w.alloc (.cells Y.toArray 61)).cell? ⟨A, 1, none⟩ = some (.map o) := by rw [cell_of_row _ _ _ _ _ _ hA]; rfl
  have hYs : (Try.prog.info? 61).map (·.size) = some Y.length := by rw [hY.out]; exact Try.len61 hk.bytes.1
  have hkv : kv S q = .agg Y.toArray := by rw [hY.out]; rfl
  go_enter Try.func23, Try.ntmps23
  go_wp2
  generalize w.alloc (.cells Y.toArray 61) = w1 at *
  have l1 : ∀ k, (Instr.lookup 54 (.map r) (.agg Y.toArray) true).run Try.prog (w1.drewN k) = .ok (.tuple #[.slice s1 n1 c1, .bool false]) (w1.drewN k) := fun k => by
    rw [← hkv]; exact l0 _ ((belowDrew B1 k))
  have l2' : ∀ j k, (Instr.lookup 54 (.map o) (.agg Y.toArray) true).run Try.prog ((w1.drewN j).drewN k) = .ok (.tuple #[.slice s2 n2 c2, .bool ok]) ((w1.drewN j).drewN k) := fun j k => by
    rw [← hkv]; exact l3 _ (belowDrew (belowDrew B1 j) k)
  clear l0 l3
  refine wp_region_quiet_lit (by kernel_rfl) (by kernel_rfl) ?_
  repeat (first
    | go_big_quiet_skip
    | (go_big_quiet_want
       first
       | (refine quiet_mid 61 (.tmp 3) rfl _ _ rfl Y _ (fun _ ⟨n, e⟩ => e ▸ rangeAt_drewN hr n) Try.underlying61 rfl hYs ?_
          go_big_quiet_on
          simp only [Act.put, List.setIfInBounds_toArray, List.set_cons_zero, List.set_cons_succ])
       | (refine quiet_look 54 (.tmp 14) (.tmp 15) rfl _ _ rfl rfl _ (fun _ ⟨n, e⟩ => e ▸ l1 n) ?_
          go_big_quiet_on
          simp only [Act.put, List.setIfInBounds_toArray, List.set_cons_zero, List.set_cons_succ])
       | (go_big_quiet_op; go_big_quiet_on)))
  refine wpQuiet_nil ?_
  rintro _ ⟨nq, rfl⟩
  have hr2 := rangeAt_drewN hr nq
  have l2 := l2' nq
  clear l2'
  go_wp2
  refine wp_region_quiet_lit (by kernel_rfl) (by kernel_rfl) ?_
  repeat (first
    | go_big_quiet_skip
    | (go_big_quiet_want
       first
       | (refine quiet_mid 61 (.tmp 3) rfl _ _ rfl Y _ (fun _ ⟨n, e⟩ => e ▸ rangeAt_drewN hr2 n) Try.underlying61 rfl hYs ?_
          go_big_quiet_on
          simp only [Act.put, List.setIfInBounds_toArray, List.set_cons_zero, List.set_cons_succ])
       | (refine quiet_look 54 (.tmp 25) (.tmp 26) rfl _ _ rfl rfl _ (fun _ ⟨n, e⟩ => e ▸ l2 n) ?_
          go_big_quiet_on
          simp only [Act.put, List.setIfInBounds_toArray, List.set_cons_zero, List.set_cons_succ])
       | (go_big_quiet_op; go_big_quiet_on)))
  refine wpQuiet_nil ?_
  rintro _ ⟨nq2, rfl⟩
  go_wp2
  refine bodyPost_ret (v := .tuple #[.slice s2 n2 c2, .bool ok]) (by simp [results, Try.results23, go_sem, Result.andThen]) rfl ⟨rfl, belowDrew (belowDrew B1 _) _⟩

/-- get: what it hands back is the same in every later world. -/
theorem get_val {F : Nat → Prop} {w : World} {A n : Nat} {R O : Rec} (hS : Seen F w A R O n) {S : List Int} {q : Int} (hk : IsKey S q) (Y : List Value) (hY : Hid (Y = bcells S ++ [Value.int .u64 q])) :
    ∃ s c L, L = (look R O S q).getD [] ∧ Ids w s L ∧ L.length ≤ c ∧ ∀ w', Below w.heap.size w w' → Calls Try.prog 23 #[.pointer (some ⟨A, 0, none⟩), .agg Y.toArray] w' fun e w'' => e = .returned (.tuple #[.slice s L.length c, .bool (look R O S q).isSome]) ∧ Below w'.heap.size w' w'' := by
  obtain ⟨r, o, no, hA, hR, hO, _⟩ := hS.ex
  obtain ⟨s1, c1, L1, l1, e1, I1, k1⟩ := look_all hR hk
  obtain ⟨s2, c2, L2, l2, e2, I2, k2⟩ := look_all hO hk
  have tr : ∀ {w' w''}, Below w.heap.size w w' → Below w'.heap.size w' w'' → Below w.heap.size w w'' := fun h k => h.trans (k.mono h.size)
  have hA' : ∀ w', Below w.heap.size w w' → w'.heap[A]? = some (.cells #[.map r, .map o] 58 (0, 0)) := fun w' B => (B.block A hS.lt_A).trans hA
  cases hRS : R S q with
  | some M =>
    rw [hRS] at l1 e1
    refine ⟨s1, c1, L1, by rw [e1]; simp [look, hRS], I1, k1, fun w' B => ?_⟩
    have e : (look R O S q).isSome = true := by simp [look, hRS]
    rw [e]
    exact get_some A r o s1 L1.length c1 S q Y w' (hA' w' B) hk hY (fun w'' B2 => l1 w'' (tr B B2))
  | none =>
    rw [hRS] at l1 e1
    refine ⟨s2, c2, L2, by rw [e2]; simp [look, hRS], I2, k2, fun w' B => ?_⟩
    have e : (look R O S q).isSome = (O S q).isSome := by simp [look, hRS]
    rw [e]
    exact get_none A r o s1 s2 L1.length c1 L2.length c2 _ S q Y w' (hA' w' B) hk hY (fun w'' B2 => l1 w'' (tr B B2)) (fun w'' B2 => l2 w'' (tr B B2))
end Go.Proofs.Qxb6602021a
