/- (*seen).chain. -/
import Derived.Test.Qxb6602021aBuild
namespace Go.Proofs.Qxb6602021a
open Go.ChangeShapes Go.WideShapes Go.ChangeAt Go.RowKit
set_option linter.unusedVariables false
set_option linter.unusedSimpArgs false

/-- A world in which all that was there is as it was. -/
def Later (w : World) : Type := { w' : World // Below w.heap.size w w' }

theorem Later.cell {w : World} {a : Addr} {v : Value} (h : w.cell? a = some v) (x : Later w) : x.1.cell? a = some v := by
  rw [x.2.cell (World.block_lt_of_cell? _ _ h)]; exact h

theorem Calls.later {P : Program} {f : FuncId} {args : Array Value} {w : World} {v : Value} (x : Later w)
    (h : Calls P f args x.1 fun e w' => e = .returned v ∧ Below x.1.heap.size x.1 w') : Calls P f args x.1 fun e w'' => e = .returned v ∧ ∃ y : Later w, w'' = y.1 :=
  h.mono fun _ w' ⟨he, hb⟩ => ⟨he, ⟨w', x.2.trans (hb.mono x.2.size)⟩, rfl⟩

theorem wp_region_later {P : Program} {id : Nat} {Q : Exit → Act → World → Prop} {a : Act} {w : World} {l : List Oper} (hm : P.follows .mixedOrders = true) (hB : Region.lexB .any l.toArray = true)
    (h : wpQuiet P l.toArray (fun w' => ∃ x : Later w, w' = x.1) (fun a' => ∀ w', (∃ x : Later w, w' = x.1) → Q .normal a' w') l a) : (Code.region id l.toArray true).wp P Q a w :=
  wp_region_quiet (C := fun w' => ∃ x : Later w, w' = x.1) hm hB ⟨⟨_, (Below.refl _ w).drew⟩, rfl⟩ (by simpa using h)

theorem exec_app {o : Oper} {a : Act} {w w' : World} (x y : Operand) (ho : o.op = .call { callee := .builtin .append, args := #[x, y], argTypes := #[47, 47] }) (vx vy v : Value) (hx : a.eval x = vx) (hy : a.eval y = vy)
    (hr : (Builtin.append_ #[47, 47] o.type #[vx, vy]).run Try.prog w = .ok v w') : (execOp a.eval o).run Try.prog w = .ok (.value v) w' := by
  unfold execOp
  simp [ho, resolve, invoke, builtin, hx, hy, hr, Result.andThen]

theorem exec_one {o : Oper} {a : Act} (w : World) (x : Operand) (ho : o.op = .buildSlice 47 1 #[(0, x)]) {S : List Int} (hS : S.length = 16) (Y : List Value) (hY : Hid (Y = bcells S)) (hx : a.eval x = .agg Y.toArray) :
    (execOp a.eval o).run Try.prog w = .ok (.value (.slice (some ⟨w.heap.size, 0, none⟩) 1 1)) (w.alloc (.cells Y.toArray 23)) := by
  obtain ⟨i, hi, hz⟩ := Option.map_eq_some_iff.1 info23
  simp only [Prod.mk.injEq] at hz
  have hY' := hY.out
  subst hY'
  have hf := fill16 hS
  have hr := run_buildSlice (P := Try.prog) w 47 23 1 #[(0, .agg (bcells S).toArray)] (bcells S).toArray i zero16 Try.underlying47 hi hz.1 (by rw [hz.2.1]; omega) (by rw [hz.2.1]; omega) (by rw [hz.2.1]; exact hf)
  unfold execOp
  simp [ho, hx, hr, Result.andThen]

theorem Seen.mono {F G : Nat → Prop} {w : World} {A n : Nat} {R O : Rec} (h : Seen F w A R O n) (hG : ∀ k, G k → F k) : Seen G w A R O n := by
  obtain ⟨r, o, no, hA, hr, ho, hF⟩ := h.ex
  exact ⟨⟨r, o, no, hA, hr, ho, fun b e => ⟨fun hg => (hF b e).1 (hG b hg), (hF b e).2⟩⟩, fun hg => h.fA (hG _ hg), fun k hk => h.lt k (hG k hk)⟩

theorem wpOp_val {P : Program} {ops : Array Oper} {Q : Exit → Act → World → Prop} {i : Nat} {K : Act → World → Prop} {a : Act} {w w' : World} {o : Oper} {v : Value} (ho : ops[i]? = some o) (hw : Region.wanted o (yielded ops a.tmps) = true) (hr : (execOp a.eval o).run P w = .ok (.value v) w') (h : K (a.put o.dst v) w') : wpOp P ops Q i K a w := by
  unfold wpOp
  simp only [ho, hw, if_true]
  refine .inl ?_
  unfold Oper.wp
  rw [hr]; exact h
theorem wpOp_enter {P : Program} {ops : Array Oper} {Q : Exit → Act → World → Prop} {i : Nat} {K : Act → World → Prop} {a : Act} {w : World} {o : Oper} {f : FuncId} {args : Array Value} (ho : ops[i]? = some o) (hw : Region.wanted o (yielded ops a.tmps) = true) (hr : (execOp a.eval o).run P w = .ok (.enter f args) w) (h : Calls P f args w fun e w' => ∃ v, e = .returned v ∧ K (a.put o.dst v) w') : wpOp P ops Q i K a w := by
  unfold wpOp
  simp only [ho, hw, if_true]
  refine .inl ?_
  unfold Oper.wp
  rw [hr]
  refine h.mono ?_
  rintro e w' ⟨v, rfl, hk⟩
  exact hk

/-- Is the key taken? -/
def acc (L : List (List Int)) (X : List Int) : Bool := !decide (X ∈ L) && decide (L.length < 4)

/-- What chain turns R, O into. -/
structure ChainTo (R O : Rec) (n : Nat) (S : List Int) (q : Int) (X : List Int) (R' O' : Rec) (n' : Nat) : Prop where
  yes : acc ((look R O S q).getD []) X = true → PutTo R O n S q ((look R O S q).getD [] ++ [X]) R' O' n'
  no : acc ((look R O S q).getD []) X = false → R' = R ∧ O' = O ∧ n' = n

set_option maxRecDepth 100000 in
set_option maxHeartbeats 2000000 in
theorem chain_no (F : Nat → Prop) (A n : Nat) (R O : Rec) (S : List Int) (q : Int) (X : List Int) (Y Z : List Value) (w : World) (hS : Seen F w A R O n) (hk : IsKey S q) (hX : IsBytes 16 X) (hY : Hid (Y = bcells S ++ [Value.int .u64 q])) (hZ : Hid (Z = bcells X)) (hacc : acc ((look R O S q).getD []) X = false) :
    Calls Try.prog 22 #[.pointer (some ⟨A, 0, none⟩), .agg Y.toArray, .agg Z.toArray] w fun e w' => e = .returned (.bool false) ∧ Below w.heap.size w w' := by
  have B1 : Below w.heap.size w ((w.alloc (.cells Y.toArray 61)).alloc (.cells Z.toArray 23)) := ((Below.refl _ _).alloc (Nat.le_refl _) _).alloc (by simp) _
  have hr : ((w.alloc (.cells Y.toArray 61)).alloc (.cells Z.toArray 23)).rangeAt w.heap.size 0 Y := World.rangeAt_alloc (rangeAt_new w Y 61) _
  have hz : ((w.alloc (.cells Y.toArray 61)).alloc (.cells Z.toArray 23)).rangeAt (w.heap.size + 1) 0 Z := by
    have := rangeAt_new (w.alloc (.cells Y.toArray 61)) Z 23
    simpa using this
  have hYs : (Try.prog.info? 61).map (·.size) = some Y.length := by rw [hY.out]; exact Try.len61 hk.bytes.1
  have hZs : (Try.prog.info? 23).map (·.size) = some Z.length := by rw [hZ.out]; exact Try.len23 hX.1
  obtain ⟨s, c, L, hL, hI, hc, hget⟩ := get_val (hS.later B1) hk Y hY
  rw [← hL] at hacc
  have HL : Hid (L = (look R O S q).getD []) := hL
  clear hL
  generalize (look R O S q).isSome = ok at hget
  go_enter Try.func22, Try.ntmps22
  go_wp2
  generalize (w.alloc (.cells Y.toArray 61)).alloc (.cells Z.toArray 23) = w1 at *
  have hne : Nonempty (Later w1) := ⟨⟨w1, Below.refl _ _⟩⟩
  refine wp_region_later (by kernel_rfl) (by kernel_rfl) ?_
  repeat (first
    | go_big_quiet_skip
    | (go_big_quiet_want
       first
       | (refine quiet_mid 61 (.tmp 4) rfl _ _ rfl Y _ (fun _ ⟨x, e⟩ => e ▸ rangeAt_later hr x.2) Try.underlying61 rfl hYs ?_
          go_big_quiet_on
          simp only [Act.put, List.setIfInBounds_toArray, List.set_cons_zero, List.set_cons_succ])
       | (go_big_quiet_op; first | go_big_quiet_on | go_big_quiet_call ((go_at_call 23; exact Calls.later _ (hget _ (Subtype.property _)))))))
  refine wpQuiet_nil ?_
  rintro w2 ⟨⟨_, B2⟩, rfl⟩
  try dsimp only
  have hz2 := rangeAt_later hz B2
  have B3 : Below w.heap.size w w2 := B1.trans (B2.mono B1.size)
  have hI2 := hI.later B2
  go_wp2_with (refine wpList_load_mid rfl 23 (.tmp 5) rfl _ _ rfl Z _ hz2 Try.underlying23 rfl hZs ?_)
  refine (contains_any L s L.length c X Z w2 rfl hI2 hX hZ).mono ?_
  rintro e w3 ⟨rfl, B4⟩
  have B5 : Below w.heap.size w w3 := B3.trans (B4.mono B3.size)
  unfold acc at hacc
  by_cases hin : X ∈ L
  · have hd : decide (X ∈ L) = true := by simpa using hin
    rw [hd]
    go_wp2
    go_ret
    exact ⟨rfl, B5⟩
  · have hd : decide (X ∈ L) = false := by simpa using hin
    rw [hd] at hacc
    have h4 : 4 ≤ L.length := by simpa using hacc
    have HI : Hid (L.length ≤ 4) := hI.le
    rw [hd]
    generalize L.length = nl at *
    have h4' : decide ((4 : Int) ≤ (nl : Int)) = true := by simp; omega
    go_wp2
    go_ret
    exact ⟨rfl, B5⟩

set_option maxRecDepth 100000 in
set_option maxHeartbeats 2000000 in
theorem chain_yes (F : Nat → Prop) (A n : Nat) (R O : Rec) (S : List Int) (q : Int) (X : List Int) (Y Z : List Value) (w : World) (hS : Seen F w A R O n) (hk : IsKey S q) (hX : IsBytes 16 X) (hY : Hid (Y = bcells S ++ [Value.int .u64 q])) (hZ : Hid (Z = bcells X)) (hacc : acc ((look R O S q).getD []) X = true) :
    Calls Try.prog 22 #[.pointer (some ⟨A, 0, none⟩), .agg Y.toArray, .agg Z.toArray] w fun e w' => e = .returned (.bool true) ∧ ∃ R' O' n', Seen F w' A R' O' n' ∧ Kept F w w' ∧ PutTo R O n S q ((look R O S q).getD [] ++ [X]) R' O' n' := by
  have B1 : Below w.heap.size w ((w.alloc (.cells Y.toArray 61)).alloc (.cells Z.toArray 23)) := ((Below.refl _ _).alloc (Nat.le_refl _) _).alloc (by simp) _
  have hr : ((w.alloc (.cells Y.toArray 61)).alloc (.cells Z.toArray 23)).rangeAt w.heap.size 0 Y := World.rangeAt_alloc (rangeAt_new w Y 61) _
  have hz : ((w.alloc (.cells Y.toArray 61)).alloc (.cells Z.toArray 23)).rangeAt (w.heap.size + 1) 0 Z := by
    have := rangeAt_new (w.alloc (.cells Y.toArray 61)) Z 23
    simpa using this
  have hYs : (Try.prog.info? 61).map (·.size) = some Y.length := by rw [hY.out]; exact Try.len61 hk.bytes.1
  have hZs : (Try.prog.info? 23).map (·.size) = some Z.length := by rw [hZ.out]; exact Try.len23 hX.1
  obtain ⟨s, c, L, hL, hI, hc, hget⟩ := get_val (hS.later B1) hk Y hY
  rw [← hL] at hacc
  have HL : Hid (L = (look R O S q).getD []) := hL
  clear hL
  generalize (look R O S q).isSome = ok at hget
  go_enter Try.func22, Try.ntmps22
  go_wp2
  generalize (w.alloc (.cells Y.toArray 61)).alloc (.cells Z.toArray 23) = w1 at *
  have hne : Nonempty (Later w1) := ⟨⟨w1, Below.refl _ _⟩⟩
  refine wp_region_later (by kernel_rfl) (by kernel_rfl) ?_
  repeat (first
    | go_big_quiet_skip
    | (go_big_quiet_want
       first
       | (refine quiet_mid 61 (.tmp 4) rfl _ _ rfl Y _ (fun _ ⟨x, e⟩ => e ▸ rangeAt_later hr x.2) Try.underlying61 rfl hYs ?_
          go_big_quiet_on
          simp only [Act.put, List.setIfInBounds_toArray, List.set_cons_zero, List.set_cons_succ])
       | (go_big_quiet_op; first | go_big_quiet_on | go_big_quiet_call ((go_at_call 23; exact Calls.later _ (hget _ (Subtype.property _)))))))
  refine wpQuiet_nil ?_
  rintro w2 ⟨⟨_, B2⟩, rfl⟩
  try dsimp only
  have hz2 := rangeAt_later hz B2
  have B3 : Below w.heap.size w w2 := B1.trans (B2.mono B1.size)
  have hI2 := hI.later B2
  go_wp2_with (refine wpList_load_mid rfl 23 (.tmp 5) rfl _ _ rfl Z _ hz2 Try.underlying23 rfl hZs ?_)
  refine (contains_any L s L.length c X Z w2 rfl hI2 hX hZ).mono ?_
  rintro e w3 ⟨rfl, B4⟩
  have B5 : Below w.heap.size w w3 := B3.trans (B4.mono B3.size)
  unfold acc at hacc
  obtain ⟨hin, hl⟩ : decide (X ∈ L) = false ∧ L.length < 4 := by simpa using hacc
  rw [hin]
  have hr5 : w3.rangeAt w.heap.size 0 Y := rangeAt_later (rangeAt_later hr B2) B4
  have hz5 : w3.rangeAt (w.heap.size + 1) 0 Z := rangeAt_later hz2 B4
  have hI5 := hI2.later B4
  have hS5 := hS.later B5
  have Hl : Hid (L.length < 4) := hl
  have hd4 : decide ((4 : Int) ≤ (L.length : Int)) = false := by simp; omega
  clear hl hacc hget hI hI2 hr hz hz2 hne
  go_wp2
  refine wp_region_held (S := fun W => W.rangeAt w.heap.size 0 Y ∧ W.rangeAt (w.heap.size + 1) 0 Z) (by kernel_rfl) ?_
  have hSS : (fun W : World => W.rangeAt w.heap.size 0 Y ∧ W.rangeAt (w.heap.size + 1) 0 Z) { w3 with drawn := w3.drawn + 1 } := ⟨hr5, hz5⟩
  refine wpAnyH_take (i := 0) (v := .pointer (some ⟨A, 0, none⟩)) rfl (by kernel_rfl) (by kernel_rfl) (by kernel_rfl) (fun _ _ _ h => h) (Or.inl ⟨rfl, fun w _ => rfl⟩) hSS ?_
  simp only [Act.put, List.getElem_toArray, List.getElem_cons_zero, List.getElem_cons_succ, List.setIfInBounds_toArray, List.set_cons_zero, List.set_cons_succ]
  refine wpAnyH_take (i := 1) (v := .pointer (some ⟨A, 0, none⟩)) rfl (by kernel_rfl) (by kernel_rfl) (by kernel_rfl) (fun _ _ _ h => h) (Or.inl ⟨rfl, fun w _ => rfl⟩) hSS ?_
  simp only [Act.put, List.getElem_toArray, List.getElem_cons_zero, List.getElem_cons_succ, List.setIfInBounds_toArray, List.set_cons_zero, List.set_cons_succ]
  refine wpAnyH_take (i := 2) (v := .pointer (some ⟨A, 0, none⟩)) rfl (by kernel_rfl) (by kernel_rfl) (by kernel_rfl) (fun _ _ _ h => h) (Or.inl ⟨rfl, fun w _ => rfl⟩) hSS ?_
  simp only [Act.put, List.getElem_toArray, List.getElem_cons_zero, List.getElem_cons_succ, List.setIfInBounds_toArray, List.set_cons_zero, List.set_cons_succ]
  refine wpAnyH_take (i := 3) (v := .agg Y.toArray) rfl (by kernel_rfl) (by kernel_rfl) (by kernel_rfl) (fun _ _ _ h => h) (yieldsIf_load_mid rfl 61 (.tmp 4) rfl _ _ rfl Y _ (fun _ h => h.1) Try.underlying61 rfl hYs) hSS ?_
  simp only [Act.put, List.getElem_toArray, List.getElem_cons_zero, List.getElem_cons_succ, List.setIfInBounds_toArray, List.set_cons_zero, List.set_cons_succ]
  refine wpAnyH_take (i := 4) (v := .slice s L.length c) rfl (by kernel_rfl) (by kernel_rfl) (by kernel_rfl) (fun _ _ _ h => h) (Or.inl ⟨rfl, fun w _ => rfl⟩) hSS ?_
  simp only [Act.put, List.getElem_toArray, List.getElem_cons_zero, List.getElem_cons_succ, List.setIfInBounds_toArray, List.set_cons_zero, List.set_cons_succ]
  refine wpAnyH_take (i := 6) (v := .agg Z.toArray) rfl (by kernel_rfl) (by kernel_rfl) (by kernel_rfl) (fun _ _ _ h => h) (yieldsIf_load_mid rfl 23 (.tmp 5) rfl _ _ rfl Z _ (fun _ h => h.2) Try.underlying23 rfl hZs) hSS ?_
  simp only [Act.put, List.getElem_toArray, List.getElem_cons_zero, List.getElem_cons_succ, List.setIfInBounds_toArray, List.set_cons_zero, List.set_cons_succ]
  obtain ⟨W1, hW1⟩ : ∃ W1, W1 = World.alloc { w3 with drawn := w3.drawn + 1 } (.cells Z.toArray 23) := ⟨_, rfl⟩
  have BW1 : Below w3.heap.size w3 W1 := by rw [hW1]; exact (Below.refl _ w3).drew.alloc (Nat.le_refl _) _
  have b6 : W1.rangeAt w3.heap.size 0 (bcells X) := by rw [hW1, hZ.out]; exact rangeAt_new w3.drew (bcells X) 23
  have hI6 := hI5.later BW1
  have hr6 := rangeAt_later hr5 BW1
  have hz6 := rangeAt_later hz5 BW1
  have B6 : Below w.heap.size w W1 := B5.trans (BW1.mono B5.size)
  have hnil : s = none → L = [] := fun e => by
    cases L with
    | nil => rfl
    | cons y M => obtain ⟨g, hg⟩ := hI6.addr (by simp); rw [e] at hg; cases hg
  refine wpAnyH_all (rs := [5, 7]) (by kernel_rfl) (by simp) ?_
  intro i hi
  rcases (by simpa using hi : i = 5 ∨ i = 7) with rfl | rfl
  · refine wpOp_enter (f := 26) (args := #[.slice s L.length c]) rfl rfl (by simp [execOp, resolve, invoke, go_sem]) ?_
    refine (clip_any s L.length c _ hc (by have := Hl.out; omega)).mono ?_
    rintro e w4 ⟨rfl, rfl⟩
    refine ⟨_, rfl, hSS, ?_⟩
    simp only [Act.put, List.getElem_toArray, List.getElem_cons_zero, List.getElem_cons_succ, List.setIfInBounds_toArray, List.set_cons_zero, List.set_cons_succ]
    refine wpAnyH_all (rs := [7]) (by kernel_rfl) (by simp) ?_
    intro i hi
    obtain rfl := List.mem_singleton.1 hi
    refine wpOp_val rfl rfl (exec_one _ (.tmp 31) rfl hX.1 Z hZ rfl) ?_
    rw [← hW1]
    refine ⟨⟨hr6, hz6⟩, ?_⟩
    simp only [Act.put, List.getElem_toArray, List.getElem_cons_zero, List.getElem_cons_succ, List.setIfInBounds_toArray, List.set_cons_zero, List.set_cons_succ]
    refine wpAnyH_all (rs := [8]) (by kernel_rfl) (by simp) ?_
    intro i hi
    obtain rfl := List.mem_singleton.1 hi
    obtain ⟨c', w5, hrun, hrow, B7⟩ := run_app1 W1 47 s L hI6 hnil Hl.out X hX w3.heap.size b6
    have hs5 : w3.heap.size ≤ W1.heap.size := BW1.size
    refine wpOp_val (v := .slice (some ⟨W1.heap.size, 0, none⟩) (L ++ [X]).length c') rfl rfl (exec_app (.tmp 30) (.tmp 32) rfl _ _ _ rfl rfl hrun) ?_
    have hr7 := rangeAt_later hr6 B7
    have hz7 := rangeAt_later hz6 B7
    have B8 : Below w.heap.size w w5 := B6.trans (B7.mono B6.size)
    refine ⟨⟨hr7, hz7⟩, ?_⟩
    simp only [Act.put, List.getElem_toArray, List.getElem_cons_zero, List.getElem_cons_succ, List.setIfInBounds_toArray, List.set_cons_zero, List.set_cons_succ]
    refine wpAnyH_all (rs := [9]) (by kernel_rfl) (by simp) ?_
    intro i hi
    obtain rfl := List.mem_singleton.1 hi
    have hS7 : Seen (fun k => F k ∨ k = w.heap.size ∨ k = w.heap.size + 1) w5 A R O n := hS.also B8 (fun k hk => by rcases hk with h | h | h; exact .inl h; exact .inr (by omega); exact .inr (by omega)) (fun k hk => by
      have h1 := B8.size
      have h2 := B1.size
      have h3 := World.block_lt_of_cell? _ _ (hz7 0 (Z[0]'(by rw [hZ.out, bcells_length]; have := hX.1; omega)) (List.getElem?_eq_getElem _))
      simp only [] at h3
      rcases hk with h | h | h
      · have := hS.lt k h; omega
      · omega
      · omega)
    refine wpOp_enter (f := 25) (args := #[.pointer (some ⟨A, 0, none⟩), .agg Y.toArray, .slice (some ⟨W1.heap.size, 0, none⟩) (L ++ [X]).length c', .int .i64 16384]) rfl rfl (by simp [execOp, resolve, invoke, go_sem]) ?_
    refine (put_any _ A n R O S q Y (L ++ [X]) W1.heap.size c' w5 hS7 hk hY hrow).mono ?_
    rintro e w6 ⟨rfl, R', O', n', hS8, hK8, hP8⟩
    refine ⟨_, rfl, ⟨?_, ?_⟩, ?_⟩
    · intro j v hv
      rw [World.cell?_of_block (w := w5) (hK8.block w.heap.size (.inr (.inl rfl)))]; exact hr7 j v hv
    · intro j v hv
      rw [World.cell?_of_block (w := w5) (hK8.block (w.heap.size + 1) (.inr (.inr rfl)))]; exact hz7 j v hv
    simp only [Act.put, List.getElem_toArray, List.getElem_cons_zero, List.getElem_cons_succ, List.setIfInBounds_toArray, List.set_cons_zero, List.set_cons_succ]
    refine wpAnyH_done (by kernel_rfl) ?_ _
    go_wp2
    go_ret
    refine ⟨rfl, R', O', n', hS8.mono (fun k h => .inl h), (Kept.of_below B8 (fun k h => hS.lt k h)).trans (hK8.mono (fun k h => .inl h)), ?_⟩
    rw [← HL.out]; exact hP8
  · refine wpOp_val rfl rfl (exec_one _ (.tmp 31) rfl hX.1 Z hZ rfl) ?_
    rw [← hW1]
    refine ⟨⟨hr6, hz6⟩, ?_⟩
    simp only [Act.put, List.getElem_toArray, List.getElem_cons_zero, List.getElem_cons_succ, List.setIfInBounds_toArray, List.set_cons_zero, List.set_cons_succ]
    refine wpAnyH_all (rs := [5]) (by kernel_rfl) (by simp) ?_
    intro i hi
    obtain rfl := List.mem_singleton.1 hi
    refine wpOp_enter (f := 26) (args := #[.slice s L.length c]) rfl rfl (by simp [execOp, resolve, invoke, go_sem]) ?_
    refine (clip_any s L.length c _ hc (by have := Hl.out; omega)).mono ?_
    rintro e w4 ⟨rfl, hw4⟩
    rw [hw4]
    refine ⟨_, rfl, ⟨hr6, hz6⟩, ?_⟩
    simp only [Act.put, List.getElem_toArray, List.getElem_cons_zero, List.getElem_cons_succ, List.setIfInBounds_toArray, List.set_cons_zero, List.set_cons_succ]
    refine wpAnyH_all (rs := [8]) (by kernel_rfl) (by simp) ?_
    intro i hi
    obtain rfl := List.mem_singleton.1 hi
    obtain ⟨c', w5, hrun, hrow, B7⟩ := run_app1 W1 47 s L hI6 hnil Hl.out X hX w3.heap.size b6
    have hs5 : w3.heap.size ≤ W1.heap.size := BW1.size
    refine wpOp_val (v := .slice (some ⟨W1.heap.size, 0, none⟩) (L ++ [X]).length c') rfl rfl (exec_app (.tmp 30) (.tmp 32) rfl _ _ _ rfl rfl hrun) ?_
    have hr7 := rangeAt_later hr6 B7
    have hz7 := rangeAt_later hz6 B7
    have B8 : Below w.heap.size w w5 := B6.trans (B7.mono B6.size)
    refine ⟨⟨hr7, hz7⟩, ?_⟩
    simp only [Act.put, List.getElem_toArray, List.getElem_cons_zero, List.getElem_cons_succ, List.setIfInBounds_toArray, List.set_cons_zero, List.set_cons_succ]
    refine wpAnyH_all (rs := [9]) (by kernel_rfl) (by simp) ?_
    intro i hi
    obtain rfl := List.mem_singleton.1 hi
    have hS7 : Seen (fun k => F k ∨ k = w.heap.size ∨ k = w.heap.size + 1) w5 A R O n := hS.also B8 (fun k hk => by rcases hk with h | h | h; exact .inl h; exact .inr (by omega); exact .inr (by omega)) (fun k hk => by
      have h1 := B8.size
      have h2 := B1.size
      have h3 := World.block_lt_of_cell? _ _ (hz7 0 (Z[0]'(by rw [hZ.out, bcells_length]; have := hX.1; omega)) (List.getElem?_eq_getElem _))
      simp only [] at h3
      rcases hk with h | h | h
      · have := hS.lt k h; omega
      · omega
      · omega)
    refine wpOp_enter (f := 25) (args := #[.pointer (some ⟨A, 0, none⟩), .agg Y.toArray, .slice (some ⟨W1.heap.size, 0, none⟩) (L ++ [X]).length c', .int .i64 16384]) rfl rfl (by simp [execOp, resolve, invoke, go_sem]) ?_
    refine (put_any _ A n R O S q Y (L ++ [X]) W1.heap.size c' w5 hS7 hk hY hrow).mono ?_
    rintro e w6 ⟨rfl, R', O', n', hS8, hK8, hP8⟩
    refine ⟨_, rfl, ⟨?_, ?_⟩, ?_⟩
    · intro j v hv
      rw [World.cell?_of_block (w := w5) (hK8.block w.heap.size (.inr (.inl rfl)))]; exact hr7 j v hv
    · intro j v hv
      rw [World.cell?_of_block (w := w5) (hK8.block (w.heap.size + 1) (.inr (.inr rfl)))]; exact hz7 j v hv
    simp only [Act.put, List.getElem_toArray, List.getElem_cons_zero, List.getElem_cons_succ, List.setIfInBounds_toArray, List.set_cons_zero, List.set_cons_succ]
    refine wpAnyH_done (by kernel_rfl) ?_ _
    go_wp2
    go_ret
    refine ⟨rfl, R', O', n', hS8.mono (fun k h => .inl h), (Kept.of_below B8 (fun k h => hS.lt k h)).trans (hK8.mono (fun k h => .inl h)), ?_⟩
    rw [← HL.out]; exact hP8
end Go.Proofs.Qxb6602021a
