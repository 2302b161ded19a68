/- holds; the plain law of the burst. -/
import Derived.Test.Qxb6602021aSide
namespace Go.Proofs.Qxb6602021a
open Go.ChangeShapes Go.WideShapes Go.ChangeAt Go.RowKit
set_option linter.unusedVariables false
set_option linter.unusedSimpArgs false

theorem rangeAt_flat {w : World} {b : Nat} {L : List (List Int)} (h : w.rangeAt b 0 (flat L)) (hi : ∀ x ∈ L, IsBytes 16 x) {i : Nat} {x : List Int} (hx : L[i]? = some x) : w.rangeAt b (i * 16) (bcells x) := fun j v hv => by
  have hj : j < 16 := by
    have h1 := (List.getElem?_eq_some_iff.1 hv).1
    rw [bcells_length] at h1
    have := (hi x (List.mem_of_getElem? hx)).1
    omega
  rw [← flat_get hi hx, List.getElem?_take, if_pos hj, List.getElem?_drop] at hv
  have := h (16 * i + j) v hv
  rw [Nat.zero_add, Nat.mul_comm] at this
  exact this

theorem Try.len50 {L : List (List Int)} (hl : L.length = 4) (h : ∀ x ∈ L, IsBytes 16 x) : (Try.prog.info? 50).map (·.size) = some (flat L).length := by
  rw [flat_length h, hl]; kernel_rfl

set_option maxRecDepth 100000 in
set_option maxHeartbeats 2000000 in
theorem holds_any (Hs : List (List Int)) (hl : Hs.length = 4) (hi : ∀ x ∈ Hs, IsBytes 16 x) (h : Nat) (hh : h ≤ 4) (X : List Int) (hX : IsBytes 16 X) (YH Z : List Value) (hYH : Hid (YH = flat Hs)) (hZ : Hid (Z = bcells X)) (w : World) :
    Calls Try.prog 20 #[.agg YH.toArray, .int .i64 h, .agg Z.toArray] w fun e w' => e = .returned (.bool (decide (X ∈ Hs.take h))) ∧ Below w.heap.size w w' := by
  have B1 : Below w.heap.size w ((w.alloc (.cells YH.toArray 50)).alloc (.cells Z.toArray 22)) := ((Below.refl _ _).alloc (Nat.le_refl _) _).alloc (by simp) _
  have hr : ((w.alloc (.cells YH.toArray 50)).alloc (.cells Z.toArray 22)).rangeAt w.heap.size 0 YH := World.rangeAt_alloc (rangeAt_new w YH 50) _
  have hz : ((w.alloc (.cells YH.toArray 50)).alloc (.cells Z.toArray 22)).rangeAt (w.heap.size + 1) 0 Z := by
    have := rangeAt_new (w.alloc (.cells YH.toArray 50)) Z 22
    simpa using this
  have hZs : (Try.prog.info? 22).map (·.size) = some Z.length := by rw [hZ.out]; exact Try.len22 hX.1
  have Hl : Hid (Hs.length = 4) := hl
  clear hl
  go_enter Try.func20, Try.ntmps20
  go_wp2
  generalize (w.alloc (.cells YH.toArray 50)).alloc (.cells Z.toArray 22) = w1 at *
  go_loopg [7] h (fun g i wr => ∃ k : Nat, k + g = h ∧ i = .int .i64 k ∧ (∀ j, j < k → Hs[j]? ≠ some X) ∧ Below w1.heap.size w1 wr)
  case atStart => exact ⟨0, by omega, rfl, fun j hj => by omega, Below.refl _ _⟩
  case round =>
    obtain ⟨k, hk, rfl, hno, B⟩ := hrel
    have hk' : k ≤ h := by omega
    have Hk : Hid (k + gk = h) := hk
    have Hno : Hid (∀ j, j < k → Hs[j]? ≠ some X) := hno
    clear hk hno
    have B2 : Below w.heap.size w wr := B1.trans (B.mono B1.size)
    by_cases hlt : k < h
    · have hL : k < Hs.length := by have := Hl.out; omega
      have hk4 : k < 4 := by omega
      have hx : Hs[k]? = some Hs[k] := List.getElem?_eq_getElem hL
      have hx' := hi Hs[k] (List.getElem_mem _)
      have hrow := rangeAt_flat (rangeAt_later (hYH.out ▸ hr) B) hi hx
      have hzz := rangeAt_later hz B
      generalize Hs[k] = T at hx hx' hrow
      have Hx : Hid (Hs[k]? = some T) := hx
      clear hx
      have he : ∀ W, (Op.equalIn 10000 22 (.agg (bcells T).toArray) (.agg Z.toArray)).run Try.prog W = .ok (T == X) W := fun W => by
        rw [hZ.out]; exact run_equalIn_bytes' W 9998 22 16 Try.underlying22 T X hx'.1 hX.1
      have hgd := Try.guard22
      have hd : decide ((k : Int) < (h : Int)) = true := by simp; omega
      cases hb : (T == X)
      · rw [hb] at he
        go_wp2
        refine wp_region_quiet_lit (by kernel_rfl) (by kernel_rfl) ?_
        repeat (first
          | go_big_quiet_skip
          | (go_big_quiet_want
             first
             | (refine quiet_mid 22 (.tmp 14) rfl _ _ rfl (bcells T) _ (fun _ ⟨n, e⟩ => e ▸ rangeAt_drewN hrow n) Try.underlying22 rfl (Try.len22 hx'.1) ?_
                go_big_quiet_on
                simp only [Act.put, List.setIfInBounds_toArray, List.set_cons_zero, List.set_cons_succ])
             | (refine quiet_mid 22 (.tmp 5) rfl _ _ rfl Z _ (fun _ ⟨n, e⟩ => e ▸ rangeAt_drewN hzz n) Try.underlying22 rfl hZs ?_
                go_big_quiet_on
                simp only [Act.put, List.setIfInBounds_toArray, List.set_cons_zero, List.set_cons_succ])
             | (go_big_quiet_op; go_big_quiet_on)))
        refine wpQuiet_nil ?_
        rintro _ ⟨nq, rfl⟩
        go_wp2
        go_roundg (gk - 1)
        case rel =>
          have := Hk.out
          refine ⟨k + 1, by omega, by go_num, fun j hj => ?_, (belowDrew B _)⟩
          by_cases e : j = k
          · subst e
            rw [Hx.out]
            intro e; injection e with e
            subst e
            simp at hb
          · exact Hno.out j (by omega)
        case measure => have := Hk.out; omega
      · rw [hb] at he
        go_wp2
        refine wp_region_quiet_lit (by kernel_rfl) (by kernel_rfl) ?_
        repeat (first
          | go_big_quiet_skip
          | (go_big_quiet_want
             first
             | (refine quiet_mid 22 (.tmp 14) rfl _ _ rfl (bcells T) _ (fun _ ⟨n, e⟩ => e ▸ rangeAt_drewN hrow n) Try.underlying22 rfl (Try.len22 hx'.1) ?_
                go_big_quiet_on
                simp only [Act.put, List.setIfInBounds_toArray, List.set_cons_zero, List.set_cons_succ])
             | (refine quiet_mid 22 (.tmp 5) rfl _ _ rfl Z _ (fun _ ⟨n, e⟩ => e ▸ rangeAt_drewN hzz n) Try.underlying22 rfl hZs ?_
                go_big_quiet_on
                simp only [Act.put, List.setIfInBounds_toArray, List.set_cons_zero, List.set_cons_succ])
             | (go_big_quiet_op; go_big_quiet_on)))
        refine wpQuiet_nil ?_
        rintro _ ⟨nq, rfl⟩
        have e : T = X := by simpa using hb
        have hin : X ∈ Hs.take h := by
          rw [← e]
          exact List.mem_of_getElem? (i := k) (by rw [List.getElem?_take, if_pos hlt]; exact Hx.out)
        have Hin : Hid (X ∈ Hs.take h) := hin
        clear hin e
        go_wp2
        go_ret
        exact ⟨by rw [decide_eq_true Hin.out]; rfl, (belowDrew B2 _)⟩
    · have hin : ¬ X ∈ Hs.take h := fun hx => by
        obtain ⟨j, he⟩ := List.mem_iff_getElem?.1 hx
        rw [List.getElem?_take] at he
        split at he
        · exact Hno.out j (by omega) he
        · cases he
      have Hin : Hid (¬ X ∈ Hs.take h) := hin
      clear hin
      go_wp2
      go_ret
      exact ⟨by rw [decide_eq_false Hin.out]; rfl, B2⟩

/-- Every entry holds one to four keys, none twice. -/
def Good (R : Rec) : Prop := ∀ S q L, R S q = some L → L.Nodup ∧ 0 < L.length ∧ L.length ≤ 4
theorem good_nil : Good Rec.nil := fun S q L h => by cases h
theorem Good.put {R : Rec} (h : Good R) {S : List Int} {q : Int} {L : List (List Int)} (hL : L.Nodup ∧ 0 < L.length ∧ L.length ≤ 4) : Good (R.put S q L) := fun T r M hM => by
  by_cases e : T = S ∧ r = q
  · obtain ⟨rfl, rfl⟩ := e
    rw [Rec.put_same] at hM
    injection hM with hM
    subst hM; exact hL
  · rw [Rec.put_other _ _ e] at hM
    exact h T r M hM
theorem Good.look {R O : Rec} (h : Good R) (k : Good O) (S : List Int) (q : Int) : ((look R O S q).getD []).Nodup ∧ ((look R O S q).getD []).length ≤ 4 ∧ (look R O S q).isSome = decide (0 < ((look R O S q).getD []).length) := by
  unfold Qxb6602021a.look
  cases hR : R S q with
  | some L =>
    obtain ⟨a, b, c⟩ := h S q L hR
    exact ⟨a, c, by simp [b]⟩
  | none =>
    cases hO : O S q with
    | some L =>
      obtain ⟨a, b, c⟩ := k S q L hO
      exact ⟨a, c, by simp [hO, b]⟩
    | none => simp [hO]

theorem acc_grow {L : List (List Int)} {X : List Int} (h : L.Nodup) (ha : acc L X = true) : (L ++ [X]).Nodup ∧ 0 < (L ++ [X]).length ∧ (L ++ [X]).length ≤ 4 := by
  obtain ⟨h1, h2⟩ : ¬ X ∈ L ∧ L.length < 4 := by simpa [acc] using ha
  refine ⟨?_, by simp, by simp; omega⟩
  rw [List.nodup_append]
  refine ⟨h, by simp, fun a hain b hb => ?_⟩
  rw [List.mem_singleton.1 hb]
  intro e; subst e; exact h1 hain

/-- The keys after one more call. -/
def grow (L : List (List Int)) (X : List Int) : List (List Int) := if acc L X = true then L ++ [X] else L

theorem ChainTo.good {R O R' O' : Rec} {n n' : Nat} {S : List Int} {q : Int} {X : List Int} (h : ChainTo R O n S q X R' O' n') (hR : Good R) (hO : Good O) : Good R' ∧ Good O' ∧ (look R' O' S q).getD [] = grow ((look R O S q).getD []) X := by
  have hl := (hR.look hO S q).1
  unfold grow
  cases ha : acc ((look R O S q).getD []) X with
  | false =>
    obtain ⟨rfl, rfl, rfl⟩ := h.no ha
    exact ⟨hR, hO, rfl⟩
  | true =>
    have hg := acc_grow hl ha
    rcases (h.yes ha).ex with ⟨rfl, rfl, _⟩ | ⟨_, _, rfl, rfl⟩
    · refine ⟨hR.put hg, hO, ?_⟩
      have e : ∀ M, look (R.put S q M) O' S q = some M := fun M => by unfold look; rw [Rec.put_same]
      rw [e]; rfl
    · refine ⟨good_nil.put hg, hR, ?_⟩
      have e : ∀ M, look (Rec.nil.put S q M) O' S q = some M := fun M => by unfold look; rw [Rec.put_same]
      rw [e]; rfl
end Go.Proofs.Qxb6602021a
