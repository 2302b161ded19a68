/- cloneSide: rows of 16 bytes copied. -/
import Derived.Test.Qxb6602021aCd
namespace Go.Proofs.Qxb6602021a
open Go.ChangeShapes Go.WideShapes Go.ChangeAt Go.RowKit
set_option linter.unusedVariables false
set_option linter.unusedSimpArgs false

theorem info22 : (Try.prog.info? 22).map (fun i => (i.zero, i.size, i.bytes)) = some (some zero16, 16, 16) := by kernel_rfl
theorem len22n {x : List Value} (h : x.length = 16) : (Try.prog.info? 22).map (·.size) = some x.length := by rw [h]; kernel_rfl

set_option maxRecDepth 100000 in
set_option maxHeartbeats 1000000 in
theorem cloneSide_nil (w : World) : Calls Try.prog 18 #[.slice none 0 0] w fun e w' => e = .returned (.slice none 0 0) ∧ w' = w := by
  have q : ∀ (w : World) (a : Option Addr) (n c n' c' : Nat), (binOp .eql 44 (.slice a n c) (.slice none n' c')).run Try.prog w = .ok (.bool a.isNone) w := fun w a n c n' c' => Lib.run_eql_slice_nil w _ _ a n c n' c' Try.underlying44
  go_enter Try.func18, Try.ntmps18
  go_wp2
  go_ret
  exact ⟨rfl, rfl⟩

set_option maxRecDepth 100000 in
set_option maxHeartbeats 1000000 in
theorem cloneSide_some (g o n c : Nat) (cs : List (List Value)) (w : World) (hn : n ≤ 1048576) (hl : cs.length = n) (hR : RowsAt w (some ⟨g, o, none⟩) 16 cs) :
    Calls Try.prog 18 #[.slice (some ⟨g, o, none⟩) n c] w fun e w' => e = .returned (.slice (some ⟨w.heap.size, 0, none⟩) n n) ∧ RowsAt w' (some ⟨w.heap.size, 0, none⟩) 16 cs ∧ w.heap.size < w'.heap.size ∧ Below w.heap.size w w' := by
  have hb : 16 * n ≤ 281474976710656 := by omega
  have hb2 : n ≤ 9223372036854775807 := by omega
  have q : ∀ (w : World) (a : Option Addr) (n c n' c' : Nat), (binOp .eql 44 (.slice a n c) (.slice none n' c')).run Try.prog w = .ok (.bool a.isNone) w := fun w a n c n' c' => Lib.run_eql_slice_nil w _ _ a n c n' c' Try.underlying44
  have Hl : Hid (cs.length = n) := hl
  clear hl
  go_enter Try.func18, Try.ntmps18
  go_wp2_with (at_make; refine wpList_make_at _ rfl _ _ 44 rfl 22 _ _ _ Try.underlying44 info22 _ _ _ _ n rfl rfl rfl rfl hb hb2 ?_)
  go_loopg [4] n (fun g i wr => ∃ k : Nat, k + g = n ∧ i = .int .i64 k ∧ Below w.heap.size w wr ∧ w.heap.size < wr.heap.size ∧ wr.there w.heap.size 0 (n * 16) ∧ (∀ i x, i < k → cs[i]? = some x → wr.rangeAt w.heap.size (i * 16) x))
  case atStart => exact ⟨0, by omega, rfl, (Below.refl _ _).alloc (Nat.le_refl _) _, by simp, there_made w _ _ _, fun i x hi => by omega⟩
  case round =>
    obtain ⟨k, hk, rfl, B, hs, hth, hrows⟩ := hrel
    have Hk : Hid (k + gk = n) := hk
    have hk' : k ≤ n := by omega
    have Hrows : Hid (∀ i x, i < k → cs[i]? = some x → wr.rangeAt w.heap.size (i * 16) x) := hrows
    clear hk hrows
    by_cases hlt : k < n
    · have hd : decide ((k : Int) < (n : Int)) = true := by simp; omega
      have hkl : k < cs.length := by have := Hl.out; omega
      have hx : cs[k]? = some cs[k] := List.getElem?_eq_getElem hkl
      have hx16 := hR.len cs[k] (List.getElem_mem _)
      have hx1 := hR.one cs[k] (List.getElem_mem _)
      have hrow := rangeAt_later (hR.cells g o rfl k _ hx) B
      generalize cs[k] = x at hx hx16 hx1 hrow
      have Hx : Hid (cs[k]? = some x) := hx
      have Hx1 : Hid (∀ v ∈ x, v.oneCell' = true) := hx1
      have Hx16 : Hid (x.length = 16) := hx16
      clear hx hx1 hx16
      have ht : wr.there w.heap.size (k * 16) x.toArray.size := by
        have e : x.toArray.size = 16 := by simpa using Hx16.out
        rw [e]; exact there_sub hth (by omega)
      go_wp2_with (first
        | (refine wpList_load_mid rfl 22 (.tmp 20) rfl _ _ rfl x _ hrow Try.underlying22 rfl (len22n Hx16.out) ?_)
        | (refine wpList_store_mid rfl 22 (.tmp 22) (.tmp 21) rfl _ _ x.toArray rfl rfl ht (by simpa using len22n Hx16.out) (all_oneCell_toArray Hx1.out) ?_))
      go_roundg (gk - 1)
      case rel =>
        have := Hk.out
        refine ⟨k + 1, by omega, by go_num, below_setCells B (Nat.le_refl _) _ _, ?_, World.there_setCells hth _ _ _, ?_⟩
        · have := (below_setCells (Below.refl _ wr) (Nat.zero_le _) x (k * 16) (b := w.heap.size) (B := 0)).size
          omega
        · intro i y hi hy
          by_cases e : i = k
          · subst e
            rw [Hx.out] at hy
            injection hy with hy
            subst hy
            exact World.rangeAt_setCells_same _ _ _ _ (by simpa using ht)
          · refine World.rangeAt_setCells_apart (Hrows.out i y (by omega) hy) _ _ _ (.inr (.inl ?_))
            have := hR.len y (List.mem_of_getElem? hy)
            omega
      case measure => have := Hk.out; omega
    · have hd : decide ((k : Int) < (n : Int)) = false := by simp; omega
      go_wp2
      go_ret
      refine ⟨rfl, ⟨fun _ => ⟨_, _, rfl⟩, fun g' o' e i x hx => ?_, hR.len, hR.one⟩, hs, B⟩
      injection e with e
      injection e with e1 e2
      subst e1 e2
      rw [Nat.zero_add]
      have := (List.getElem?_eq_some_iff.1 hx).1
      have hl := Hl.out
      exact Hrows.out i x (by omega) hx

theorem side_any (s : Option Addr) (n c : Nat) (cs : List (List Value)) (w : World) (hn : n ≤ 1048576) (hl : cs.length = n) (hR : RowsAt w s 16 cs) (hs : (s = none ∧ n = 0 ∧ c = 0) ∨ ∃ g o, s = some ⟨g, o, none⟩) :
    Calls Try.prog 18 #[.slice s n c] w fun e w' => ∃ s', e = .returned (.slice s' n n) ∧ RowsAt w' s' 16 cs ∧ (∀ g, s' = some ⟨g, 0, none⟩ → g < w'.heap.size) ∧ (0 < n → ∃ g, s' = some ⟨g, 0, none⟩) ∧ Below w.heap.size w w' := by
  rcases hs with ⟨rfl, rfl, rfl⟩ | ⟨g, o, rfl⟩
  · refine (cloneSide_nil w).mono ?_
    rintro e w' ⟨rfl, rfl⟩
    exact ⟨none, rfl, hR, fun ad h => (by cases h), fun h => by omega, Below.refl _ _⟩
  · refine (cloneSide_some g o n c cs w hn hl hR).mono ?_
    rintro e w' ⟨rfl, hr, hsz, B⟩
    exact ⟨_, rfl, hr, fun g h => (by injection h with h; injection h with h; omega), fun _ => ⟨_, rfl⟩, B⟩

set_option maxRecDepth 100000 in
set_option maxHeartbeats 2000000 in
theorem bytes17 (s : Option Addr) (n c : Nat) (P : Array Value) (q : Int) (s2 : Option Addr) (n2 c2 : Nat) (w : World) (hn : n ≤ 9223372036854775807) (hn2 : n2 ≤ 9223372036854775807) :
    Calls Try.prog 17 #[.slice s n c, .agg P, .int .u64 q, .slice s2 n2 c2] w fun e w' => SomeBool e ∧ Below w.heap.size w w' := by
  have B1 : Below w.heap.size w (w.alloc (.cells P 22)) := (Below.refl _ _).alloc (Nat.le_refl _) _
  by_cases h0 : 1048576 < n
  · have hd : decide ((1048576 : Int) < (n : Int)) = true := by simp; omega
    go_enter Try.func17, Try.ntmps17
    go_wp2
    go_ret
    exact ⟨someBool false, B1⟩
  · have hd : decide ((1048576 : Int) < (n : Int)) = false := by simp; omega
    go_enter Try.func17, Try.ntmps17
    go_wp2
    generalize w.alloc (.cells P 22) = w1 at *
    go_loopg [9, 10] n (fun g z i wr => ∃ (k : Nat) (x : Int), k + g = n ∧ z = .int .i64 x ∧ 0 ≤ x ∧ x ≤ 1048576 ∧ i = .int .i64 k ∧ w1 = wr)
    case atStart => exact ⟨0, n, by omega, rfl, by omega, by omega, rfl, rfl⟩
    case round =>
      obtain ⟨k, x, hk, rfl, hx0, hx1, rfl, rfl⟩ := hrel
      have Hk : Hid (k + gk = n) := hk
      have hk' : k ≤ n := by omega
      clear hk
      by_cases hlt : k < n
      · have hd' : decide ((k : Int) < (n : Int)) = true := by simp; omega
        by_cases h1 : x + 16 ≤ 1048576
        · by_cases h2 : x + 16 + 16 ≤ 1048576
          · go_wp2
            go_roundg (gk - 1)
            case rel =>
              have := Hk.out
              exact ⟨k + 1, x + 16 + 16, by omega, by go_num, by omega, by omega, by go_num, rfl⟩
            case measure => have := Hk.out; omega
          · go_wp2
            go_ret
            exact ⟨someBool false, B1⟩
        · go_wp2
          go_ret
          exact ⟨someBool false, B1⟩
      · have hd' : decide ((k : Int) < (n : Int)) = false := by simp; omega
        by_cases h2 : 1048576 < n2
        · have hd2 : decide ((1048576 : Int) < (n2 : Int)) = true := by simp; omega
          go_wp2
          go_ret
          exact ⟨someBool false, B1⟩
        · have hd2 : decide ((1048576 : Int) < (n2 : Int)) = false := by simp; omega
          by_cases h3 : x + (n2 : Int) ≤ 1048576
          · obtain ⟨g0, rfl⟩ : ∃ g0 : Nat, g0 = gk := ⟨_, rfl⟩
            go_wp2
            go_loopg [9, 11] n2 (fun g z i wr => ∃ (j : Nat) (y : Int), j + g = n2 ∧ z = .int .i64 y ∧ 0 ≤ y ∧ y ≤ 1048576 ∧ i = .int .i64 j ∧ w1 = wr)
            case atStart => exact ⟨0, x + n2, by omega, by go_num, by omega, by omega, rfl, rfl⟩
            case round =>
              obtain ⟨j, y, hj, rfl, hy0, hy1, rfl, rfl⟩ := hrel
              have Hj : Hid (j + gk = n2) := hj
              have hj' : j ≤ n2 := by omega
              clear hj
              by_cases hlt2 : j < n2
              · have hd' : decide ((j : Int) < (n2 : Int)) = true := by simp; omega
                by_cases h4 : y + 16 ≤ 1048576
                · go_wp2
                  go_roundg (gk - 1)
                  case rel =>
                    have := Hj.out
                    exact ⟨j + 1, y + 16, by omega, by go_num, by omega, by omega, by go_num, rfl⟩
                  case measure => have := Hj.out; omega
                · go_wp2
                  go_ret
                  exact ⟨someBool false, B1⟩
              · have hd' : decide ((j : Int) < (n2 : Int)) = false := by simp; omega
                go_wp2
                go_ret
                exact ⟨someBool true, B1⟩
          · go_wp2
            go_ret
            exact ⟨someBool false, B1⟩
end Go.Proofs.Qxb6602021a
