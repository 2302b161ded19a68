/- The walk of the script's law. -/
import Derived.Test.Qxb6602021aSt
namespace Go.Proofs.Qxb6602021a
open Go.ChangeShapes Go.WideShapes Go.ChangeAt Go.RowKit
set_option linter.unusedVariables false
set_option linter.unusedSimpArgs false

theorem st_start {w w3 : World} {n : Nat} {s : Option Addr} {src key : Nat → List Int} {seq : Nat → Int} {Y : List Value} {M : Array Value} (hM : ∀ j, j < n → M[j]? = some (.bool false)) (hC : ∀ G, s = some ⟨G, 0, none⟩ → CallsIn w3 G n src key seq) (hG : ∀ G, s = some ⟨G, 0, none⟩ → G < w3.heap.size) (hr : w3.rangeAt w.heap.size 0 Y) (hB : Below w.heap.size w w3) (hlt : w.heap.size < w3.heap.size) :
    St w w3.heap.size n s src key seq Y ((w3.alloc (.cells #[.map none, .map none] 58)).alloc (.cells M 4)) 0 (fun _ => false) Rec.nil 0 := by
  have B1 : Below w3.heap.size w3 ((w3.alloc (.cells #[.map none, .map none] 58)).alloc (.cells M 4)) := ((Below.refl _ _).alloc (Nat.le_refl _) _).alloc (by simp) _
  have e1 : ((w3.alloc (.cells #[.map none, .map none] 58)).alloc (.cells M 4)).heap[w3.heap.size + 1]? = some (.cells M 4 (0, 0)) := by
    have := heap_alloc_new (w3.alloc (.cells #[.map none, .map none] 58)) (.cells M 4)
    simpa using this
  have e2 : ((w3.alloc (.cells #[.map none, .map none] 58)).alloc (.cells M 4)).heap[w3.heap.size]? = some (.cells #[.map none, .map none] 58 (0, 0)) := by
    rw [Below.heap_alloc _ _ _ (by simp)]
    exact heap_alloc_new w3 _
  refine ⟨⟨⟨none, none, 0, e2, ⟨rfl, rfl⟩, ⟨rfl, rfl⟩, fun b h => by cases h⟩, fun h => by omega, fun k h => by simp; omega⟩, fun S q => by simp [keysOf, Rec.nil], Nat.le_refl _, fun j hj => ?_, ⟨M, e1⟩, fun G hs => ⟨(hC G hs).later B1, hG G hs⟩, rangeAt_later hr B1, hB.trans (B1.mono hB.size), hlt⟩
  rw [cell_of_row _ _ _ _ _ _ e1]
  exact hM j hj

/-- At the script's end every record matches. -/
theorem St.record {w : World} {B n : Nat} {s : Option Addr} {src key : Nat → List Int} {seq : Nat → Int} {Y : List Value} {wr : World} {fl : Nat → Bool} {R : Rec} {ne : Nat} (h : St w B n s src key seq Y wr n fl R ne) (hn : n ≤ 8192) (hs : 0 < n → ∃ G, s = some ⟨G, 0, none⟩) {w' : World} (hb : Below wr.heap.size wr w') {S : List Int} {q : Int} (hk : IsKey S q) (Z : List Value) (hZ : Hid (Z = bcells S)) :
    Calls Try.prog 16 #[.pointer (some ⟨B, 0, none⟩), .slice s n n, .slice (some ⟨B + 1, 0, none⟩) n n, .agg Z.toArray, .int .u64 q] w' fun e w'' => e = .returned (.bool true) ∧ Below w'.heap.size w' w'' :=
  record_any _ B ne R Rec.nil s (B + 1) n n n src key seq fl S q Z w' (h.seen.later hb) hk hZ hs (fun G hG => (h.calls G hG).1.later hb) (h.flags.later hb) (by omega) (h.hist.getD S q) (h.hist.isSome S q)

set_option maxRecDepth 100000 in
set_option maxHeartbeats 4000000 in
theorem law5_main (calls : List CallD) (hok : ∀ c ∈ calls, OkCall c) (s : Option Addr) (n c : Nat) (P : List Int) (pq : Int) (Y : List Value) (w : World) (hn : n ≤ 8192) (hl : calls.length = n) (hR : RowsAt w s 33 (calls.map callCells)) (hs : (s = none ∧ n = 0 ∧ c = 0) ∨ ∃ g o, s = some ⟨g, o, none⟩) (hp : IsKey P pq) (hY : Hid (Y = bcells P)) :
    Calls Try.prog 5 #[.slice s n c, .agg Y.toArray, .int .u64 pq] w fun e w' => e = .returned (.bool true) ∧ Below w.heap.size w w' := by
  have B1 : Below w.heap.size w (w.alloc (.cells Y.toArray 22)) := (Below.refl _ _).alloc (Nat.le_refl _) _
  have hr := rangeAt_new w Y 22
  have hs1 : w.heap.size < (w.alloc (.cells Y.toArray 22)).heap.size := by simp
  have hYs : (Try.prog.info? 22).map (·.size) = some Y.length := by rw [hY.out]; exact Try.len22 hp.bytes.1
  have hd8 : decide ((8192 : Int) < (n : Int)) = false := by simp; omega
  have hR1 := hR.later B1
  go_enter Try.func5, Try.ntmps5
  go_wp2_with (refine wpList_load_mid rfl 22 (.tmp 4) rfl _ _ rfl Y _ hr Try.underlying22 rfl hYs ?_)
  generalize w.alloc (.cells Y.toArray 22) = w1 at *
  refine (bytes11 s n c Y.toArray pq w1 (by omega)).mono ?_
  rintro e w2 ⟨⟨b, rfl⟩, B2⟩
  have B12 : Below w.heap.size w w2 := B1.trans (B2.mono B1.size)
  have hr2 := rangeAt_later hr B2
  have hs2 : w.heap.size < w2.heap.size := by have := B2.size; omega
  have hR2 := hR1.later B2
  cases b with
  | false =>
    go_wp2
    go_ret
    exact ⟨rfl, B12⟩
  | true =>
    go_wp2_with fail
    refine (clone_any s n c (calls.map callCells) w2 (by omega) (by simpa using hl) hR2 hs).mono ?_
    rintro e w3 ⟨s', rfl, hR3, ha3, hs3, B3⟩
    have B13 : Below w.heap.size w w3 := B12.trans (B3.mono B12.size)
    have hr3 := rangeAt_later hr2 B3
    have hlt3 : w.heap.size < w3.heap.size := by have := B3.size; omega
    clear hR hR1 hR2 hr hr2
    go_wp2_with fail
    refine (newSeen_any w3).mono ?_
    rintro e w4 ⟨rfl, rfl⟩
    have hb2 : 1 * n ≤ 281474976710656 := by omega
    have hb3 : n ≤ 9223372036854775807 := by omega
    go_wp2_with (at_make; refine wpList_make_at _ rfl _ _ 38 rfl 4 _ _ _ Try.underlying38 info4 _ _ _ _ n rfl rfl rfl rfl hb2 hb3 ?_)
    have hG3 : ∀ G, s' = some ⟨G, 0, none⟩ → CallsIn w3 G n (fun j => (calls.getD j noCall).1) (fun j => (calls.getD j noCall).2.2) (fun j => (calls.getD j noCall).2.1) := fun G hG => by
      rw [← hl]; exact callsIn_of_rows hok (by rw [← hG]; exact hR3)
    generalize (fun j => (calls.getD j noCall).1) = src at hG3
    generalize (fun j => (calls.getD j noCall).2.2) = key at hG3
    generalize (fun j => (calls.getD j noCall).2.1) = seq at hG3
    go_loopg [10] n (fun g z wr => ∃ k fl R ne, k + g = n ∧ z = .int .i64 (k : Nat) ∧ St w w3.heap.size n s' src key seq Y wr k fl R ne)
    case atStart => exact ⟨0, _, _, 0, by omega, rfl, st_start (by intro j hj; simp [madeCells, hj, Nat.mod_one]) hG3 ha3 hr3 B13 hlt3⟩
    case round =>
      obtain ⟨k, fl, R, ne, hk, rfl, T⟩ := hrel
      have Hk : Hid (k + gk = n) := hk
      have hkn : k ≤ n := by omega
      clear hk
      by_cases hlt : k < n
      · have hd : decide ((k : Int) < (n : Int)) = true := by simp; omega
        obtain ⟨G, rfl⟩ := hs3 (by omega)
        obtain ⟨hC, hGB⟩ := T.calls G rfl
        go_wp2_with fail
        refine (hist_any G (w3.heap.size + 1) n n n k src key seq fl wr hC T.flags hlt (by omega)).mono ?_
        rintro e w5 ⟨rfl, q5, rfl⟩
        obtain ⟨fcs, hrow⟩ := T.row
        have hcell := T.flags k hlt
        have hfz : wr.frozen? ⟨w3.heap.size + 1, k, none⟩ = false := frozen_row hrow k
        have a1 := hC.atSrc k hlt
        have a2 := hC.atSeq k hlt
        have a3 := hC.atKey k hlt
        have hsk := hC.isSrc k
        have hkk := hC.isKey k
        have hS := (T.seen.later (belowDrew (Below.refl _ _) q5)).setCell (H := w3.heap.size + 1) (i := k) (v := .bool (acc (keysOf src key seq fl (src k) (seq k) k) (key k))) hrow
        have hgn : ¬ G = w3.heap.size + 1 := by omega
        have step : ∀ (w' : World) {R' O' : Rec} {ne' : Nat}, Seen (fun b => b < w3.heap.size ∨ b = w3.heap.size + 1) w' w3.heap.size R' O' ne' → Kept (fun b => b < w3.heap.size ∨ b = w3.heap.size + 1) ((wr.drewN q5).setCell ⟨w3.heap.size + 1, k, none⟩ (.bool (acc (keysOf src key seq fl (src k) (seq k) k) (key k)))) w' → ChainTo R Rec.nil ne (src k) (seq k) (key k) R' O' ne' → St w w3.heap.size n (some ⟨G, 0, none⟩) src key seq Y w' (k + 1) (fun j => if j = k then acc (keysOf src key seq fl (src k) (seq k) k) (key k) else fl j) R' ne' := fun w' {_ _ _} h1 h2 h3 => T.step hlt hn w' q5 h1 h2 h3
        have hgd := T.hist.getD (src k) (seq k)
        have Hgd : Hid ((look R Rec.nil (src k) (seq k)).getD [] = keysOf src key seq fl (src k) (seq k) k) := hgd
        clear hgd T
        go_wp2
        obtain ⟨W, hW⟩ : ∃ W, W = (wr.drewN q5).setCell ⟨w3.heap.size + 1, k, none⟩ (.bool (acc (keysOf src key seq fl (src k) (seq k) k) (key k))) := ⟨_, rfl⟩
        rw [← hW]
        rw [← hW] at hS
        have eG : W.heap[G]? = wr.heap[G]? := by rw [hW]; exact Below.heap_setCell (wr.drewN q5) _ _ _ hgn
        have c1 := rangeAt_block a1 eG
        have c3 := rangeAt_block a3 eG
        have c2 : W.cell? ⟨G, k * 33 + 16, none⟩ = some (.int .u64 (seq k)) := by rw [World.cell?_of_block (w := wr) (w' := W) (a := ⟨G, k * 33 + 16, none⟩) eG]; exact a2
        have cf : W.cell? ⟨w3.heap.size + 1, k, none⟩ = some (.bool (acc (keysOf src key seq fl (src k) (seq k) k) (key k))) := by
          rw [hW]; exact World.cell?_setCell_same _ _ _ (show (wr.drewN q5).cell? _ = some _ from hcell)
        rw [← hW] at step
        clear hW
        refine wp_region_chain [_, _, _, _, _, _, _, _, _, _, _, _, _, _, _, _] [_, _] rfl (by kernel_rfl) (by kernel_rfl) ?_
        repeat (first
          | go_big_quiet_skip
          | (go_big_quiet_want
             first
             | (refine quiet_mid 22 (.tmp 44) rfl _ _ rfl (bcells (src k)) _ (fun _ ⟨n, e⟩ => e ▸ rangeAt_drewN c1 n) Try.underlying22 rfl (Try.len22 hsk.bytes.1) ?_
                go_big_quiet_on
                simp only [Act.put, List.setIfInBounds_toArray, List.set_cons_zero, List.set_cons_succ])
             | (refine quiet_mid 22 (.tmp 54) rfl _ _ rfl (bcells (key k)) _ (fun _ ⟨n, e⟩ => e ▸ rangeAt_drewN c3 n) Try.underlying22 rfl (Try.len22 hkk.1) ?_
                go_big_quiet_on
                simp only [Act.put, List.setIfInBounds_toArray, List.set_cons_zero, List.set_cons_succ])
             | (go_big_quiet_op; go_big_quiet_on)))
        refine wpQuiet_nil ?_
        intro nq
        go_wp2_with fail
        refine (zzchain_any _ w3.heap.size ne R Rec.nil (src k) (seq k) (key k) (bcells (src k)) (bcells (key k)) _ (hS.later (belowDrew (Below.refl _ W) nq)) hsk hkk rfl rfl).mono ?_
        rintro e w6 ⟨rfl, R', O', ne', hS6, hK6, hC6⟩
        rw [Hgd.out]
        have T6 := step w6 hS6 ⟨hK6.os, hK6.tape, hK6.output, hK6.size, hK6.block⟩ hC6
        have cf6 := T6.flags k hlt
        simp only [if_true] at cf6
        clear step hS6 hK6 hC6
        generalize acc (keysOf src key seq fl (src k) (seq k) k) (key k) = bb at *
        go_wp2
        go_roundg (gk - 1)
        case rel =>
          have := Hk.out
          exact ⟨k + 1, _, R', ne', by omega, by go_num, T6⟩
        case measure => have := Hk.out; omega
      · have hd : decide ((k : Int) < (n : Int)) = false := by simp; omega
        have ekn : k = n := by omega
        rw [ekn] at T
        have HT : Hid (St w w3.heap.size n s' src key seq Y wr n fl R ne) := T
        clear Hk ekn T
        obtain ⟨g0, rfl⟩ : ∃ g0 : Nat, g0 = gk := ⟨_, rfl⟩
        obtain ⟨wo, rfl⟩ : ∃ wo : World, wo = wr := ⟨_, rfl⟩
        go_wp2
        go_loopg [12] n (fun g z w7 => ∃ i : Nat, i + g = n ∧ z = .int .i64 i ∧ Below wo.heap.size wo w7)
        case atStart => exact ⟨0, by omega, rfl, Below.refl _ _⟩
        case round =>
          obtain ⟨i, hi, rfl, B7⟩ := hrel
          have Hi : Hid (i + gk = n) := hi
          have hin : i ≤ n := by omega
          clear hi
          by_cases hlt : i < n
          · have hdi : decide ((i : Int) < (n : Int)) = true := by simp; omega
            obtain ⟨G, rfl⟩ := hs3 (by omega)
            have hC := (HT.out.calls G rfl).1.later B7
            have a1 := hC.atSrc i hlt
            have a2 := hC.atSeq i hlt
            have hsi := hC.isSrc i
            have hrec : ∀ x : Later wr, Calls Try.prog 16 #[.pointer (some ⟨w3.heap.size, 0, none⟩), .slice (some ⟨G, 0, none⟩) n n, .slice (some ⟨w3.heap.size + 1, 0, none⟩) n n, .agg (bcells (src i)).toArray, .int .u64 (seq i)] x.1 fun e w'' => e = .returned (.bool true) ∧ Below x.1.heap.size x.1 w'' := fun x => HT.out.record hn hs3 (B7.trans (x.2.mono B7.size)) hsi (bcells (src i)) rfl
            have hne : Nonempty (Later wr) := ⟨⟨wr, Below.refl _ _⟩⟩
            have q2 := fun y : Later wr => Later.cell a2 y
            go_wp2
            refine wp_region_later (by kernel_rfl) (by kernel_rfl) ?_
            repeat (first
              | go_big_quiet_skip
              | (go_big_quiet_want
                 first
                 | (refine quiet_mid 22 (.tmp 74) rfl _ _ rfl (bcells (src i)) _ (fun _ ⟨x, e⟩ => e ▸ rangeAt_later a1 x.2) Try.underlying22 rfl (Try.len22 hsi.bytes.1) ?_
                    go_big_quiet_on
                    simp only [Act.put, List.setIfInBounds_toArray, List.set_cons_zero, List.set_cons_succ])
                 | (go_big_quiet_op; first | go_big_quiet_on | go_big_quiet_call ((go_at_call 16; exact Calls.later _ (hrec _))))))
            refine wpQuiet_nil ?_
            rintro w8 ⟨⟨_, B8⟩, rfl⟩
            go_wp2
            go_roundg (gk - 1)
            case rel =>
              have := Hi.out
              exact ⟨i + 1, by omega, by go_num, B7.trans (B8.mono B7.size)⟩
            case measure => have := Hi.out; omega
          · have hdi : decide ((i : Int) < (n : Int)) = false := by simp; omega
            have hpr := rangeAt_later HT.out.probe B7
            have hB := HT.out.below
            go_wp2_with (refine wpList_load_mid rfl 22 (.tmp 4) rfl _ _ rfl Y _ hpr Try.underlying22 rfl hYs ?_)
            refine (HT.out.record hn hs3 B7 hp Y hY).mono ?_
            rintro e w8 ⟨rfl, B8⟩
            go_wp2
            go_ret
            exact ⟨rfl, (hB.trans (B7.mono hB.size)).trans (B8.mono (Nat.le_trans hB.size B7.size))⟩
end Go.Proofs.Qxb6602021a
