/- ZZNewSeen, ZZSeenChain, ZZSeenGet. -/
import Derived.Test.Qxb6602021aChainFn
namespace Go.Proofs.Qxb6602021a
open Go.ChangeShapes Go.WideShapes Go.ChangeAt Go.RowKit
set_option linter.unusedVariables false
set_option linter.unusedSimpArgs false

theorem chain_any (F : Nat → Prop) (A n : Nat) (R O : Rec) (S : List Int) (q : Int) (X : List Int) (Y Z : List Value) (w : World) (hS : Seen F w A R O n) (hk : IsKey S q) (hX : IsBytes 16 X) (hY : Hid (Y = bcells S ++ [Value.int .u64 q])) (hZ : Hid (Z = bcells X)) :
    Calls Try.prog 22 #[.pointer (some ⟨A, 0, none⟩), .agg Y.toArray, .agg Z.toArray] w fun e w' => e = .returned (.bool (acc ((look R O S q).getD []) X)) ∧ ∃ R' O' n', Seen F w' A R' O' n' ∧ Kept F w w' ∧ ChainTo R O n S q X R' O' n' := by
  cases h : acc ((look R O S q).getD []) X with
  | false =>
    refine (chain_no F A n R O S q X Y Z w hS hk hX hY hZ h).mono ?_
    rintro e w' ⟨rfl, B⟩
    exact ⟨rfl, R, O, n, hS.later B, Kept.of_below B hS.lt, ⟨fun h' => (by rw [h] at h'; cases h'), fun _ => ⟨rfl, rfl, rfl⟩⟩⟩
  | true =>
    refine (chain_yes F A n R O S q X Y Z w hS hk hX hY hZ h).mono ?_
    rintro e w' ⟨rfl, R', O', n', h1, h2, h3⟩
    exact ⟨rfl, R', O', n', h1, h2, ⟨fun _ => h3, fun h' => by rw [h] at h'; cases h'⟩⟩

theorem wpList_build61 {ops : Array Oper} {rest : List Oper} {o : Oper} {a : Act} {w : World} {Q : Exit → Act → World → Prop} (hg : o.guard = none) (x y : Operand) (ho : o.op = .build 61 #[(0, x), (1, y)]) {S : List Int} {q : Int} (h : S.length = 16) (Y YY : List Value) (hY : Hid (Y = bcells S)) (hYY : Hid (YY = bcells S ++ [Value.int .u64 q])) (hx : a.eval x = .agg Y.toArray) (hy : a.eval y = .int .u64 q)
    (hK : wpList Try.prog ops Q rest (a.put o.dst (.agg YY.toArray)) w) : wpList Try.prog ops Q (o :: rest) a w := by
  refine wpList_plain hg fun K hK' => ?_
  unfold Oper.wp
  rw [exec_build61 x y ho h Y hY hx hy w]
  have e : Y ++ [Value.int .u64 q] = YY := by rw [hYY.out, hY.out]
  rw [e]
  exact hK' _ _ hK

theorem quiet_build61 {C : World → Prop} {o : Oper} {a : Act} {K : Act → Prop} (x y : Operand) (ho : o.op = .build 61 #[(0, x), (1, y)]) {S : List Int} {q : Int} (h : S.length = 16) (Y YY : List Value) (hY : Hid (Y = bcells S)) (hYY : Hid (YY = bcells S ++ [Value.int .u64 q])) (hx : a.eval x = .agg Y.toArray) (hy : a.eval y = .int .u64 q)
    (hK : K (a.put o.dst (.agg YY.toArray))) : o.quiet Try.prog a C K := by
  have e : Y ++ [Value.int .u64 q] = YY := by rw [hYY.out, hY.out]
  exact quiet_val _ (fun w _ => by rw [← e]; exact exec_build61 x y ho h Y hY hx hy w) hK

set_option maxRecDepth 100000 in
set_option maxHeartbeats 1000000 in
theorem newSeen_any (w : World) : Calls Try.prog 13 #[] w fun e w' => e = .returned (.pointer (some ⟨w.heap.size, 0, none⟩)) ∧ w' = w.alloc (.cells #[.map none, .map none] 58) := by
  go_enter Try.func13, Try.ntmps13
  go_wp2
  go_ret
  exact ⟨rfl, rfl⟩

set_option maxRecDepth 100000 in
set_option maxHeartbeats 1000000 in
theorem zzchain_any (F : Nat → Prop) (A n : Nat) (R O : Rec) (S : List Int) (q : Int) (X : List Int) (Y Z : List Value) (w : World) (hS : Seen F w A R O n) (hk : IsKey S q) (hX : IsBytes 16 X) (hY : Hid (Y = bcells S)) (hZ : Hid (Z = bcells X)) :
    Calls Try.prog 15 #[.pointer (some ⟨A, 0, none⟩), .agg Y.toArray, .int .u64 q, .agg Z.toArray] w fun e w' => e = .returned (.bool (acc ((look R O S q).getD []) X)) ∧ ∃ R' O' n', Seen F w' A R' O' n' ∧ Kept F w w' ∧ ChainTo R O n S q X R' O' n' := by
  have B1 : Below w.heap.size w ((w.alloc (.cells Y.toArray 23)).alloc (.cells Z.toArray 23)) := ((Below.refl _ _).alloc (Nat.le_refl _) _).alloc (by simp) _
  have hr : ((w.alloc (.cells Y.toArray 23)).alloc (.cells Z.toArray 23)).rangeAt w.heap.size 0 Y := World.rangeAt_alloc (rangeAt_new w Y 23) _
  have hz : ((w.alloc (.cells Y.toArray 23)).alloc (.cells Z.toArray 23)).rangeAt (w.heap.size + 1) 0 Z := by
    have := rangeAt_new (w.alloc (.cells Y.toArray 23)) Z 23
    simpa using this
  have hYs : (Try.prog.info? 23).map (·.size) = some Y.length := by rw [hY.out]; exact Try.len23 hk.bytes.1
  have hZs : (Try.prog.info? 23).map (·.size) = some Z.length := by rw [hZ.out]; exact Try.len23 hX.1
  have hS1 := hS.later B1
  obtain ⟨YY, hYY⟩ : ∃ YY, YY = bcells S ++ [Value.int .u64 q] := ⟨_, rfl⟩
  have HYY : Hid (YY = bcells S ++ [Value.int .u64 q]) := hYY
  clear hYY
  go_enter Try.func15, Try.ntmps15
  go_wp2_with (first
    | (refine wpList_load_mid rfl 23 (.tmp 5) rfl _ _ rfl Y _ hr Try.underlying23 rfl hYs ?_)
    | (refine wpList_load_mid rfl 23 (.tmp 7) rfl _ _ rfl Z _ hz Try.underlying23 rfl hZs ?_)
    | (refine wpList_build61 rfl (.tmp 10) (.tmp 11) rfl hk.bytes.1 Y YY hY HYY rfl rfl ?_))
  refine (chain_any F A n R O S q X YY Z _ hS1 hk hX HYY hZ).mono ?_
  rintro e w' ⟨rfl, R', O', n', h1, h2, h3⟩
  go_wp2
  go_ret
  exact ⟨rfl, R', O', n', h1, (Kept.of_below B1 hS.lt).trans h2, h3⟩

set_option maxRecDepth 100000 in
set_option maxHeartbeats 1000000 in
theorem zzget_val {F : Nat → Prop} {w : World} {A n : Nat} {R O : Rec} (hS : Seen F w A R O n) {S : List Int} {q : Int} (hk : IsKey S q) (Y : List Value) (hY : Hid (Y = bcells S)) :
    ∃ s c L, L = (look R O S q).getD [] ∧ Ids w s L ∧ L.length ≤ c ∧ ∀ w', Below w.heap.size w w' → Calls Try.prog 19 #[.pointer (some ⟨A, 0, none⟩), .agg Y.toArray, .int .u64 q] w' fun e w'' => e = .returned (.tuple #[.slice s L.length c, .bool (look R O S q).isSome]) ∧ Below w'.heap.size w' w'' := by
  obtain ⟨YY, hYY⟩ : ∃ YY, YY = bcells S ++ [Value.int .u64 q] := ⟨_, rfl⟩
  have HYY : Hid (YY = bcells S ++ [Value.int .u64 q]) := hYY
  clear hYY
  obtain ⟨s, c, L, hL, hI, hc, hget⟩ := get_val hS hk YY HYY
  refine ⟨s, c, L, hL, hI, hc, fun w' B => ?_⟩
  generalize (look R O S q).isSome = ok at hget
  generalize L.length = nl at hget
  have B1 : Below w'.heap.size w' (w'.alloc (.cells Y.toArray 23)) := (Below.refl _ _).alloc (Nat.le_refl _) _
  have hr := rangeAt_new w' Y 23
  have hYs : (Try.prog.info? 23).map (·.size) = some Y.length := by rw [hY.out]; exact Try.len23 hk.bytes.1
  have hget1 : ∀ x : Later (w'.alloc (.cells Y.toArray 23)), Calls Try.prog 23 #[.pointer (some ⟨A, 0, none⟩), .agg YY.toArray] x.1 fun e w'' => e = .returned (.tuple #[.slice s nl c, .bool ok]) ∧ Below x.1.heap.size x.1 w'' := fun x => hget x.1 ((B.trans (B1.mono B.size)).trans (x.2.mono (by have := B.size; have := B1.size; omega)))
  clear hget
  go_enter Try.func19, Try.ntmps19
  go_wp2
  generalize w'.alloc (.cells Y.toArray 23) = w1 at *
  have hne : Nonempty (Later w1) := ⟨⟨w1, Below.refl _ _⟩⟩
  refine wp_region_later (by kernel_rfl) (by kernel_rfl) ?_
  repeat (first
    | go_big_quiet_skip
    | (go_big_quiet_want
       first
       | (refine quiet_mid 23 (.tmp 4) rfl _ _ rfl Y _ (fun _ ⟨x, e⟩ => e ▸ rangeAt_later hr x.2) Try.underlying23 rfl hYs ?_
          go_big_quiet_on
          simp only [Act.put, List.setIfInBounds_toArray, List.set_cons_zero, List.set_cons_succ])
       | (refine quiet_build61 (.tmp 11) (.tmp 12) rfl hk.bytes.1 Y YY hY HYY rfl rfl ?_
          go_big_quiet_on
          simp only [Act.put, List.setIfInBounds_toArray, List.set_cons_zero, List.set_cons_succ])
       | (go_big_quiet_op; first | go_big_quiet_on | go_big_quiet_call ((go_at_call 23; exact Calls.later _ (hget1 _))))))
  refine wpQuiet_nil ?_
  rintro w2 ⟨⟨_, B2⟩, rfl⟩
  go_wp2
  refine bodyPost_ret (v := .tuple #[.slice s nl c, .bool ok]) (by simp [results, Try.results19, go_sem, Result.andThen]) rfl ⟨rfl, B1.trans (B2.mono B1.size)⟩
end Go.Proofs.Qxb6602021a
