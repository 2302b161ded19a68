/- recordMatches. -/
import Derived.Test.Qxb6602021aHist
namespace Go.Proofs.Qxb6602021a
open Go.ChangeShapes Go.WideShapes Go.ChangeAt Go.RowKit
set_option linter.unusedVariables false
set_option linter.unusedSimpArgs false

theorem keysOf_prefix {src key : Nat → List Int} {seq : Nat → Int} {fl : Nat → Bool} {S : List Int} {q : Int} {i j : Nat} (h : j ≤ i) : ∃ M, keysOf src key seq fl S q i = keysOf src key seq fl S q j ++ M := by
  induction i with
  | zero =>
    obtain rfl : j = 0 := by omega
    exact ⟨[], by simp⟩
  | succ i ih =>
    by_cases e : j = i + 1
    · subst e; exact ⟨[], by simp⟩
    · obtain ⟨M, hM⟩ := ih (by omega)
      rw [keysOf]
      split
      · exact ⟨M ++ [key i], by rw [hM, List.append_assoc]⟩
      · exact ⟨M, hM⟩

theorem keysOf_at {src key : Nat → List Int} {seq : Nat → Int} {fl : Nat → Bool} {S : List Int} {q : Int} {j n : Nat} (hj : j < n) (hy : fl j = true ∧ src j = S ∧ seq j = q) : (keysOf src key seq fl S q n)[(keysOf src key seq fl S q j).length]? = some (key j) := by
  obtain ⟨M, hM⟩ := keysOf_prefix (src := src) (key := key) (seq := seq) (fl := fl) (S := S) (q := q) (i := n) (j := j + 1) (by omega)
  rw [hM, keysOf, if_pos hy]
  simp

theorem CallsIn.later {w w' : World} {G n : Nat} {src key : Nat → List Int} {seq : Nat → Int} (h : CallsIn w G n src key seq) (hb : Below w.heap.size w w') : CallsIn w' G n src key seq :=
  ⟨fun j hj => rangeAt_later (h.atSrc j hj) hb, fun j hj => by have := h.atSeq j hj; rw [hb.cell (World.block_lt_of_cell? _ _ this)]; exact this, fun j hj => rangeAt_later (h.atKey j hj) hb, h.isSrc, h.isKey⟩
theorem Flags.later {w w' : World} {H n : Nat} {fl : Nat → Bool} (h : Flags w H n fl) (hb : Below w.heap.size w w') : Flags w' H n fl :=
  fun j hj => by have := h j hj; rw [hb.cell (World.block_lt_of_cell? _ _ this)]; exact this

set_option maxRecDepth 100000 in
set_option maxHeartbeats 2000000 in
theorem record_any (F : Nat → Prop) (A ne : Nat) (R O : Rec) (s : Option Addr) (H n c c' : Nat) (src key : Nat → List Int) (seq : Nat → Int) (fl : Nat → Bool) (S : List Int) (q : Int) (Y : List Value) (w : World) (hS : Seen F w A R O ne) (hk : IsKey S q) (hY : Hid (Y = bcells S)) (hs : 0 < n → ∃ G, s = some ⟨G, 0, none⟩) (hC : ∀ G, s = some ⟨G, 0, none⟩ → CallsIn w G n src key seq) (hF : Flags w H n fl) (hn : n ≤ 1048576)
    (hL : (look R O S q).getD [] = keysOf src key seq fl S q n) (hok : (look R O S q).isSome = decide (0 < (keysOf src key seq fl S q n).length)) :
    Calls Try.prog 16 #[.pointer (some ⟨A, 0, none⟩), .slice s n c, .slice (some ⟨H, 0, none⟩) n c', .agg Y.toArray, .int .u64 q] w fun e w' => e = .returned (.bool true) ∧ Below w.heap.size w w' := by
  have B1 : Below w.heap.size w (w.alloc (.cells Y.toArray 22)) := (Below.refl _ _).alloc (Nat.le_refl _) _
  have hr := rangeAt_new w Y 22
  have hYs : (Try.prog.info? 22).map (·.size) = some Y.length := by rw [hY.out]; exact Try.len22 hk.bytes.1
  obtain ⟨gs, gc, L, hLL, hI, hgc, hget⟩ := zzget_val (hS.later B1) hk Y hY
  rw [hL] at hLL
  rw [hok] at hget
  have HLL : Hid (L = keysOf src key seq fl S q n) := hLL
  have hb : decide (0 < (keysOf src key seq fl S q n).length) = decide (0 < L.length) := by rw [hLL]
  rw [hb] at hget
  clear hLL hL hok hb
  have hl4 := hI.le
  obtain ⟨nl, hnl⟩ : ∃ nl, L.length = nl := ⟨_, rfl⟩
  rw [hnl] at hget hl4 hgc
  have Hnl : Hid (L.length = nl) := hnl
  clear hnl
  go_enter Try.func16, Try.ntmps16
  go_wp2_with (refine wpList_load_mid rfl 22 (.tmp 8) rfl _ _ rfl Y _ hr Try.underlying22 rfl hYs ?_)
  refine (hget _ (Below.refl _ _)).mono ?_
  rintro e w2 ⟨rfl, B2⟩
  have B3 : Below w.heap.size w w2 := B1.trans (B2.mono B1.size)
  have hr2 := rangeAt_later hr B2
  clear hr
  have hI2 := hI.later B2
  clear hI hget
  go_wp2
  go_loopg [13, 14] n (fun g z x wr => ∃ j m : Nat, j + g = n ∧ z = .int .i64 m ∧ x = .int .i64 j ∧ m = (keysOf src key seq fl S q j).length ∧ m ≤ j ∧ Below w2.heap.size w2 wr)
  case atStart => exact ⟨0, 0, by omega, rfl, rfl, rfl, by omega, Below.refl _ _⟩
  case round =>
    obtain ⟨j, m, hk', rfl, rfl, hm, hmk, B⟩ := hrel
    have Hk : Hid (j + gk = n) := hk'
    have Hm : Hid (m = (keysOf src key seq fl S q j).length) := hm
    have hjn : j ≤ n := by omega
    clear hk' hm
    by_cases hlt : j < n
    · have hd : decide ((j : Int) < (n : Int)) = true := by simp; omega
      obtain ⟨G, rfl⟩ := hs (by omega)
      have B4 : Below w.heap.size w wr := B3.trans (B.mono B3.size)
      have hC1 := (hC G rfl).later B4
      have f1 := (hF.later B4) j hlt
      have a1 := hC1.atSrc j hlt
      have a2 := hC1.atSeq j hlt
      have a3 := hC1.atKey j hlt
      have hsj := (hC1.isSrc j).bytes
      have hkj := hC1.isKey j
      have hr := rangeAt_later hr2 B
      have g22 := Try.guard22
      have es : ∀ W, (Op.equalIn 10000 22 (.agg (bcells (src j)).toArray) (.agg Y.toArray)).run Try.prog W = .ok (src j == S) W := fun W => by rw [hY.out]; exact run_equalIn_bytes' W 9998 22 16 Try.underlying22 _ _ hsj.1 hk.bytes.1
      have ek : ∀ W, (Op.equalIn 10000 22 (.agg (bcells (key j)).toArray) (.agg (bcells (key j)).toArray)).run Try.prog W = .ok true W := fun W => by
        have := run_equalIn_bytes' W 9998 22 16 Try.underlying22 (key j) (key j) hkj.1 hkj.1
        simpa using this
      cases hf : fl j with
      | false =>
        rw [hf] at f1
        go_wp2
        refine wp_region_quiet_lit (by kernel_rfl) (by kernel_rfl) ?_
        repeat (first
          | go_big_quiet_skip
          | (go_big_quiet_want
             first
             | (refine quiet_mid 22 (.tmp 37) rfl _ _ rfl (bcells (src j)) _ (fun _ ⟨n, e⟩ => e ▸ rangeAt_drewN a1 n) Try.underlying22 rfl (Try.len22 hsj.1) ?_
                go_big_quiet_on
                simp only [Act.put, List.setIfInBounds_toArray, List.set_cons_zero, List.set_cons_succ])
             | (refine quiet_mid 22 (.tmp 8) rfl _ _ rfl Y _ (fun _ ⟨n, e⟩ => e ▸ rangeAt_drewN hr n) Try.underlying22 rfl hYs ?_
                go_big_quiet_on
                simp only [Act.put, List.setIfInBounds_toArray, List.set_cons_zero, List.set_cons_succ])
             | (go_big_quiet_op; go_big_quiet_on)))
        refine wpQuiet_nil ?_
        rintro _ ⟨nq, rfl⟩
        go_wp2
        go_roundg (gk - 1)
        case rel =>
          have := Hk.out
          have e : keysOf src key seq fl S q (j + 1) = keysOf src key seq fl S q j := by rw [keysOf, if_neg (fun h => by simp [hf] at h)]
          exact ⟨j + 1, m, by omega, by go_num, by go_num, by rw [e]; exact Hm.out, by omega, (belowDrew B _)⟩
        case measure => have := Hk.out; omega
      | true =>
        rw [hf] at f1
        by_cases hss : src j = S
        · have hsb : (src j == S) = true := by simpa using hss
          rw [hsb] at es
          by_cases hq : seq j = q
          · have Hyes : Hid (fl j = true ∧ src j = S ∧ seq j = q) := ⟨hf, hss, hq⟩
            rw [hq] at a2
            clear hss hq hsb
            have hat := keysOf_at (key := key) hlt Hyes.out
            rw [← Hm.out, ← HLL.out] at hat
            have hml : m < nl := by rw [← Hnl.out]; exact (List.getElem?_eq_some_iff.1 hat).1
            obtain ⟨g, rfl⟩ := hI2.addr (by have := Hnl.out; omega)
            have hgot := rangeAt_later (hI2.cells g rfl m _ hat) B
            clear hat
            have hdm : decide ((nl : Int) ≤ (m : Int)) = false := by simp; omega
            have hdm' : decide (nl ≤ m) = false := by simp; omega
            have hdm2 : ¬ nl ≤ m := by omega
            go_wp2
            refine wp_region_quiet_lit (by kernel_rfl) (by kernel_rfl) ?_
            repeat (first
              | go_big_quiet_skip
              | (go_big_quiet_want
                 first
                 | (refine quiet_mid 22 (.tmp 37) rfl _ _ rfl (bcells (src j)) _ (fun _ ⟨n, e⟩ => e ▸ rangeAt_drewN a1 n) Try.underlying22 rfl (Try.len22 hsj.1) ?_
                    go_big_quiet_on
                    simp only [Act.put, List.setIfInBounds_toArray, List.set_cons_zero, List.set_cons_succ])
                 | (refine quiet_mid 22 (.tmp 8) rfl _ _ rfl Y _ (fun _ ⟨n, e⟩ => e ▸ rangeAt_drewN hr n) Try.underlying22 rfl hYs ?_
                    go_big_quiet_on
                    simp only [Act.put, List.setIfInBounds_toArray, List.set_cons_zero, List.set_cons_succ])
                 | (go_big_quiet_op; go_big_quiet_on)))
            refine wpQuiet_nil ?_
            rintro _ ⟨nq, rfl⟩
            go_wp2
            refine wp_region_quiet_lit (by kernel_rfl) (by kernel_rfl) ?_
            repeat (first
              | go_big_quiet_skip
              | (go_big_quiet_want
                 first
                 | (refine quiet_mid 23 (.tmp 58) rfl _ _ rfl (bcells (key j)) _ (fun _ ⟨n, e⟩ => e ▸ rangeAt_drewN (rangeAt_drewN hgot nq) n) Try.underlying23 rfl (Try.len23 hkj.1) ?_
                    go_big_quiet_on
                    simp only [Act.put, List.setIfInBounds_toArray, List.set_cons_zero, List.set_cons_succ])
                 | (refine quiet_mid 22 (.tmp 63) rfl _ _ rfl (bcells (key j)) _ (fun _ ⟨n, e⟩ => e ▸ rangeAt_drewN (rangeAt_drewN a3 nq) n) Try.underlying22 rfl (Try.len22 hkj.1) ?_
                    go_big_quiet_on
                    simp only [Act.put, List.setIfInBounds_toArray, List.set_cons_zero, List.set_cons_succ])
                 | (go_big_quiet_op; go_big_quiet_on)))
            refine wpQuiet_nil ?_
            rintro _ ⟨nq2, rfl⟩
            go_wp2
            go_roundg (gk - 1)
            case rel =>
              have := Hk.out
              have e : keysOf src key seq fl S q (j + 1) = keysOf src key seq fl S q j ++ [key j] := by rw [keysOf, if_pos Hyes.out]
              exact ⟨j + 1, m + 1, by omega, by go_num, by go_num, by rw [e, List.length_append, ← Hm.out]; rfl, by omega, (belowDrew B _)⟩
            case measure => have := Hk.out; omega
          · have Hq : Hid (¬ seq j = q) := hq
            clear hss
            go_wp2
            refine wp_region_quiet_lit (by kernel_rfl) (by kernel_rfl) ?_
            repeat (first
              | go_big_quiet_skip
              | (go_big_quiet_want
                 first
                 | (refine quiet_mid 22 (.tmp 37) rfl _ _ rfl (bcells (src j)) _ (fun _ ⟨n, e⟩ => e ▸ rangeAt_drewN a1 n) Try.underlying22 rfl (Try.len22 hsj.1) ?_
                    go_big_quiet_on
                    simp only [Act.put, List.setIfInBounds_toArray, List.set_cons_zero, List.set_cons_succ])
                 | (refine quiet_mid 22 (.tmp 8) rfl _ _ rfl Y _ (fun _ ⟨n, e⟩ => e ▸ rangeAt_drewN hr n) Try.underlying22 rfl hYs ?_
                    go_big_quiet_on
                    simp only [Act.put, List.setIfInBounds_toArray, List.set_cons_zero, List.set_cons_succ])
                 | (go_big_quiet_op; go_big_quiet_on)))
            refine wpQuiet_nil ?_
            rintro _ ⟨nq, rfl⟩
            go_wp2
            go_roundg (gk - 1)
            case rel =>
              have := Hk.out
              have e : keysOf src key seq fl S q (j + 1) = keysOf src key seq fl S q j := by rw [keysOf, if_neg (fun h => Hq.out h.2.2)]
              exact ⟨j + 1, m, by omega, by go_num, by go_num, by rw [e]; exact Hm.out, by omega, (belowDrew B _)⟩
            case measure => have := Hk.out; omega
        · have hsb : (src j == S) = false := by simpa using hss
          rw [hsb] at es
          have Hs : Hid (¬ src j = S) := hss
          clear hss
          go_wp2
          refine wp_region_quiet_lit (by kernel_rfl) (by kernel_rfl) ?_
          repeat (first
            | go_big_quiet_skip
            | (go_big_quiet_want
               first
               | (refine quiet_mid 22 (.tmp 37) rfl _ _ rfl (bcells (src j)) _ (fun _ ⟨n, e⟩ => e ▸ rangeAt_drewN a1 n) Try.underlying22 rfl (Try.len22 hsj.1) ?_
                  go_big_quiet_on
                  simp only [Act.put, List.setIfInBounds_toArray, List.set_cons_zero, List.set_cons_succ])
               | (refine quiet_mid 22 (.tmp 8) rfl _ _ rfl Y _ (fun _ ⟨n, e⟩ => e ▸ rangeAt_drewN hr n) Try.underlying22 rfl hYs ?_
                  go_big_quiet_on
                  simp only [Act.put, List.setIfInBounds_toArray, List.set_cons_zero, List.set_cons_succ])
               | (go_big_quiet_op; go_big_quiet_on)))
          refine wpQuiet_nil ?_
          rintro _ ⟨nq, rfl⟩
          go_wp2
          go_roundg (gk - 1)
          case rel =>
            have := Hk.out
            have e : keysOf src key seq fl S q (j + 1) = keysOf src key seq fl S q j := by rw [keysOf, if_neg (fun h => Hs.out h.2.1)]
            exact ⟨j + 1, m, by omega, by go_num, by go_num, by rw [e]; exact Hm.out, by omega, (belowDrew B _)⟩
          case measure => have := Hk.out; omega
    · have hd : decide ((j : Int) < (n : Int)) = false := by simp; omega
      obtain rfl : j = n := by omega
      obtain rfl : m = nl := by rw [← Hnl.out, HLL.out]; exact Hm.out
      go_wp2
      go_ret
      exact ⟨rfl, B3.trans (B.mono B3.size)⟩
end Go.Proofs.Qxb6602021a
