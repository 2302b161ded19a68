/- slices.Index, slices.Contains, slices.Clip on a slice of identities. -/
import Derived.Test.Qxb6602021aMap
import Derived.Test.Qxb6602021aChain
import Derived.Test.Qxb6602021aVal
import Derived.Deep.MidRow
namespace Go.Proofs.Qxb6602021a
open Go.ChangeShapes Go.WideShapes Go.ChangeAt Go.RowKit
set_option linter.unusedVariables false
set_option linter.unusedSimpArgs false

theorem belowDrew {B : Nat} {a w : World} (h : Below B a w) (n : Nat) : Below B a (w.drewN n) := ⟨h.os, h.tape, h.output, h.size, h.block⟩
theorem rangeAt_drewN {w : World} {b o : Nat} {cs : List Value} (h : w.rangeAt b o cs) (n : Nat) : (w.drewN n).rangeAt b o cs := h
theorem rangeAt_later {w w' : World} {b o : Nat} {cs : List Value} (h : w.rangeAt b o cs) (hb : Below w.heap.size w w') : w'.rangeAt b o cs := fun j v hv => by
  have := h j v hv
  rw [hb.cell (World.block_lt_of_cell? _ _ this)]; exact this
theorem rangeAt_new (w : World) (cs : List Value) (t : TypeId) : (w.alloc (.cells cs.toArray t)).rangeAt w.heap.size 0 cs := fun j v hv => by
  rw [World.cell?_alloc_at _ _ _ _ rfl]; simpa using hv

/-- A row loaded in a region that draws. -/
theorem quiet_mid {P : Program} {C : World → Prop} {o : Oper} {a : Act} {K : Act → Prop} (ty : TypeId) (x : Operand) (ho : o.op = .load ty x) (b off : Nat) (hx : a.eval x = .pointer (some ⟨b, off, none⟩)) (cs : List Value) (d : TypeDesc)
    (hc : ∀ w, C w → w.rangeAt b off cs) (hu : P.underlying ty = some d) (hd : d.isRow = true) (hi : (P.info? ty).map (·.size) = some cs.length) (hk : K (a.put o.dst (.agg cs.toArray))) : o.quiet P a C K :=
  ⟨_, fun w hw => by
    unfold Oper.quietAt execOp
    simp only [ho, hx, Instr.loadAt, Instr.sureAddr, Sem.run_bind, Sem.run_pure, Result.andThen_ok, run_loadVar_mid w b off ty cs d (hc w hw) hu hd hi]
    exact ⟨rfl, rfl⟩, hk⟩

theorem Try.len23 {S : List Int} (h : S.length = 16) : (Try.prog.info? 23).map (·.size) = some (bcells S).length := by rw [bcells_length, h]; kernel_rfl
theorem Try.len22 {S : List Int} (h : S.length = 16) : (Try.prog.info? 22).map (·.size) = some (bcells S).length := by rw [bcells_length, h]; kernel_rfl
theorem Try.guard23 : Try.prog.eqGuardType Try.prog.depth 23 = false := by kernel_rfl
theorem Try.guard22 : Try.prog.eqGuardType Try.prog.depth 22 = false := by kernel_rfl

/-- s is the address of a slice of the identities L. -/
structure Ids (w : World) (s : Option Addr) (L : List (List Int)) : Prop where
  addr : 0 < L.length → ∃ g, s = some ⟨g, 0, none⟩
  cells : ∀ g, s = some ⟨g, 0, none⟩ → ∀ i x, L[i]? = some x → w.rangeAt g (i * 16) (bcells x)
  ids : ∀ x ∈ L, IsBytes 16 x
  le : L.length ≤ 4

theorem Ids.later {w w' : World} {s : Option Addr} {L : List (List Int)} (h : Ids w s L) (hb : Below w.heap.size w w') : Ids w' s L :=
  ⟨h.addr, fun g hg i x hx => rangeAt_later (h.cells g hg i x hx) hb, h.ids, h.le⟩

theorem flat_get {L : List (List Int)} (h : ∀ x ∈ L, IsBytes 16 x) {i : Nat} {x : List Int} (hx : L[i]? = some x) : ((flat L).drop (16 * i)).take 16 = bcells x := by
  induction L generalizing i with
  | nil => simp at hx
  | cons y L ih =>
    have hy := (h y (by simp)).1
    have hl : (bcells y).length = 16 := by rw [bcells_length]; exact hy
    cases i with
    | zero =>
      simp at hx
      subst hx
      simp only [flat, List.map_cons, List.flatten_cons, Nat.mul_zero, List.drop_zero]
      rw [List.take_append_of_le_length (by omega), List.take_of_length_le (by omega)]
    | succ i =>
      simp at hx
      have := ih (fun z hz => h z (by simp [hz])) hx
      simp only [flat, List.map_cons, List.flatten_cons] at this ⊢
      rw [show 16 * (i + 1) = (bcells y).length + 16 * i by omega, List.drop_append]
      rw [List.drop_of_length_le (by omega), List.nil_append, Nat.add_sub_cancel_left]
      exact this

theorem Row.ids' {w : World} {v : Value} {L : List (List Int)} (h : Row w v L) : ∃ g c, v = .slice (some ⟨g, 0, none⟩) L.length c ∧ L.length ≤ c ∧ Ids w (some ⟨g, 0, none⟩) L := by
  obtain ⟨g, c, cs, rfl, hg, ht, hc⟩ := h.ex
  refine ⟨g, c, rfl, hc, fun _ => ⟨g, rfl⟩, fun g' hg' i x hx j v hv => ?_, h.ids, h.le⟩
  obtain rfl : g = g' := by injection hg' with e; injection e
  have hi := (List.getElem?_eq_some_iff.1 hx).1
  have hj : j < 16 := by
    have h1 := (List.getElem?_eq_some_iff.1 hv).1
    rw [bcells_length] at h1
    have := (h.ids x (List.mem_of_getElem? hx)).1
    omega
  rw [cell_of_row w g _ cs 23 (0, 0) hg, Nat.mul_comm]
  rw [← flat_get h.ids hx, ← ht, List.getElem?_take, if_pos hj, List.getElem?_drop, List.getElem?_take] at hv
  split at hv
  · simpa using hv
  · cases hv

set_option maxRecDepth 100000 in
set_option maxHeartbeats 1000000 in
theorem index_any (L : List (List Int)) (s : Option Addr) (n c : Nat) (X : List Int) (Y : List Value) (w : World) (hn : n = L.length) (hI : Ids w s L) (hX : IsBytes 16 X) (hY : Hid (Y = bcells X)) :
    Calls Try.prog 27 #[.slice s n c, .agg Y.toArray] w fun e w' => ∃ j : Int, e = .returned (.int .i64 j) ∧ (0 ≤ j ↔ X ∈ L) ∧ Below w.heap.size w w' := by
  have hn4 : n ≤ 4 := by have := hI.le; omega
  have Hn : Hid (n = L.length) := hn
  clear hn
  go_enter Try.func27, Try.ntmps27
  go_wp2
  go_loopg [8] n (fun g i wr => ∃ k : Nat, k + g = n ∧ i = .int .i64 k ∧ (∀ j, j < k → L[j]? ≠ some X) ∧ Below w.heap.size w wr ∧ wr.rangeAt w.heap.size 0 Y)
  case atStart => exact ⟨0, by omega, rfl, fun j hj => by omega, (Below.refl _ _).alloc (Nat.le_refl _) _, rangeAt_new w Y 23⟩
  case round =>
    obtain ⟨k, hk, rfl, hno, B, hr⟩ := hrel
    have hk' : k ≤ n := by omega
    have Hk : Hid (k + gk = n) := hk
    have Hno : Hid (∀ j, j < k → L[j]? ≠ some X) := hno
    clear hk hno
    by_cases hlt : k < n
    · have hL : k < L.length := by have := Hn.out; omega
      obtain ⟨g, rfl⟩ := hI.addr (by omega)
      have hx : L[k]? = some L[k] := List.getElem?_eq_getElem hL
      have hx' := hI.ids L[k] (List.getElem_mem _)
      have hrow := rangeAt_later (hI.cells g rfl k _ hx) B
      generalize L[k] = Z at hx hx' hrow
      have Hx : Hid (L[k]? = some Z) := hx
      clear hx
      have he : ∀ W, (Op.equalIn 10000 23 (.agg Y.toArray) (.agg (bcells Z).toArray)).run Try.prog W = .ok (X == Z) W := fun W => by
        rw [hY.out]; exact run_equalIn_bytes' W 9998 23 16 Try.underlying23 X Z hX.1 hx'.1
      have hgd := Try.guard23
      have hd : decide ((k : Int) < (n : Int)) = true := by simp; omega
      cases hb : (X == Z)
      · rw [hb] at he
        go_wp2
        refine wp_region_quiet_lit (by kernel_rfl) (by kernel_rfl) ?_
        repeat (first
          | go_big_quiet_skip
          | (go_big_quiet_want
             first
             | (refine quiet_mid 23 (.tmp 3) rfl _ _ rfl Y _ (fun _ ⟨n, e⟩ => e ▸ rangeAt_drewN hr n) Try.underlying23 rfl (by rw [hY.out]; exact Try.len23 hX.1) ?_
                go_big_quiet_on
                simp only [Act.put, List.setIfInBounds_toArray, List.set_cons_zero, List.set_cons_succ])
             | (refine quiet_mid 23 (.tmp 14) rfl _ _ rfl (bcells Z) _ (fun _ ⟨n, e⟩ => e ▸ rangeAt_drewN hrow n) Try.underlying23 rfl (Try.len23 hx'.1) ?_
                go_big_quiet_on
                simp only [Act.put, List.setIfInBounds_toArray, List.set_cons_zero, List.set_cons_succ])
             | (go_big_quiet_op; go_big_quiet_on)))
        refine wpQuiet_nil ?_
        rintro _ ⟨nq, rfl⟩
        go_wp2
        go_roundg (gk - 1)
        case rel =>
          have := Hk.out
          refine ⟨k + 1, by omega, by go_num, fun j hj => ?_, (belowDrew B _), rangeAt_drewN hr _⟩
          by_cases e : j = k
          · subst e
            rw [Hx.out]
            intro e; injection e with e
            subst e
            simp at hb
          · exact Hno.out j (by omega)
        case measure => have := Hk.out; omega
      · rw [hb] at he
        go_wp2
        refine wp_region_quiet_lit (by kernel_rfl) (by kernel_rfl) ?_
        repeat (first
          | go_big_quiet_skip
          | (go_big_quiet_want
             first
             | (refine quiet_mid 23 (.tmp 3) rfl _ _ rfl Y _ (fun _ ⟨n, e⟩ => e ▸ rangeAt_drewN hr n) Try.underlying23 rfl (by rw [hY.out]; exact Try.len23 hX.1) ?_
                go_big_quiet_on
                simp only [Act.put, List.setIfInBounds_toArray, List.set_cons_zero, List.set_cons_succ])
             | (refine quiet_mid 23 (.tmp 14) rfl _ _ rfl (bcells Z) _ (fun _ ⟨n, e⟩ => e ▸ rangeAt_drewN hrow n) Try.underlying23 rfl (Try.len23 hx'.1) ?_
                go_big_quiet_on
                simp only [Act.put, List.setIfInBounds_toArray, List.set_cons_zero, List.set_cons_succ])
             | (go_big_quiet_op; go_big_quiet_on)))
        refine wpQuiet_nil ?_
        rintro _ ⟨nq, rfl⟩
        go_wp2
        go_ret
        refine ⟨k, rfl, ⟨fun _ => ?_, fun _ => by omega⟩, (belowDrew B _)⟩
        have e : X = Z := by simpa using hb
        rw [e]; exact List.mem_of_getElem? Hx.out
    · go_wp2
      go_ret
      refine ⟨-1, rfl, ⟨fun h => by omega, fun h => ?_⟩, B⟩
      obtain ⟨j, hj, he⟩ := List.mem_iff_getElem.1 h
      exact absurd (by rw [List.getElem?_eq_getElem hj, he]) (Hno.out j (by have := Hn.out; omega))

set_option maxRecDepth 100000 in
set_option maxHeartbeats 1000000 in
theorem contains_any (L : List (List Int)) (s : Option Addr) (n c : Nat) (X : List Int) (Y : List Value) (w : World) (hn : n = L.length) (hI : Ids w s L) (hX : IsBytes 16 X) (hY : Hid (Y = bcells X)) :
    Calls Try.prog 24 #[.slice s n c, .agg Y.toArray] w fun e w' => e = .returned (.bool (decide (X ∈ L))) ∧ Below w.heap.size w w' := by
  have B1 : Below w.heap.size w (w.alloc (.cells Y.toArray 23)) := (Below.refl _ _).alloc (Nat.le_refl _) _
  have hr := rangeAt_new w Y 23
  have Hn : Hid (n = L.length) := hn
  clear hn
  go_enter Try.func24, Try.ntmps24
  go_wp2_with (refine wpList_load_mid rfl 23 (.tmp 3) rfl _ _ rfl Y _ hr Try.underlying23 rfl (by rw [hY.out]; exact Try.len23 hX.1) ?_)
  refine (index_any L s n c X Y _ Hn.out (hI.later B1) hX hY).mono ?_
  rintro e W ⟨j, rfl, hj, B⟩
  have Hj : Hid (0 ≤ j ↔ X ∈ L) := hj
  clear hj
  go_wp2
  go_ret
  refine ⟨?_, B1.trans (B.mono (by simp))⟩
  show Ending.returned (.bool (decide (0 ≤ j))) = _
  rw [decide_eq_decide.2 Hj.out]

set_option maxRecDepth 100000 in
set_option maxHeartbeats 1000000 in
theorem clip_any (s : Option Addr) (n c : Nat) (w : World) (hn : n ≤ c) (hn4 : n ≤ 4) :
    Calls Try.prog 26 #[.slice s n c] w fun e w' => e = .returned (.slice s n n) ∧ w' = w := by
  go_enter Try.func26, Try.ntmps26
  go_wp2
  go_ret
  exact ⟨rfl, rfl⟩
end Go.Proofs.Qxb6602021a
