/- The walk of the burst's law. -/
import Derived.Test.Qxb6602021aHeld
namespace Go.Proofs.Qxb6602021a
open Go.ChangeShapes Go.WideShapes Go.ChangeAt Go.RowKit
set_option linter.unusedVariables false
set_option linter.unusedSimpArgs false

theorem bcells_size {x : List Int} (hx : IsBytes 16 x) : (bcells x).toArray.size = 16 := by rw [List.size_toArray, bcells_length]; exact hx.1

set_option maxRecDepth 100000 in
set_option maxHeartbeats 8000000 in
theorem law6_main (calls : List CallD) (hok : ∀ c ∈ calls, OkCall c) (s : Option Addr) (n c : Nat) (S : List Int) (q : Int) (Y : List Value) (keys : List (List Int)) (hkeys : ∀ x ∈ keys, IsBytes 16 x) (s2 : Option Addr) (m c2 : Nat) (w : World) (hnm : 40 * n + 16 * m ≤ 1048576) (hl : calls.length = n) (hR : RowsAt w s 33 (calls.map callCells)) (hs : (s = none ∧ n = 0 ∧ c = 0) ∨ ∃ g o, s = some ⟨g, o, none⟩)
    (hl2 : keys.length = m) (hRk : RowsAt w s2 16 (keys.map bcells)) (hsk : (s2 = none ∧ m = 0 ∧ c2 = 0) ∨ ∃ g o, s2 = some ⟨g, o, none⟩) (hp : IsKey S q) (hY : Hid (Y = bcells S)) :
    Calls Try.prog 6 #[.slice s n c, .agg Y.toArray, .int .u64 q, .slice s2 m c2] w fun e w' => e = .returned (.bool true) ∧ Below w.heap.size w w' := by
  have B1 : Below w.heap.size w (w.alloc (.cells Y.toArray 22)) := (Below.refl _ _).alloc (Nat.le_refl _) _
  have hr := rangeAt_new w Y 22
  have hs1 : w.heap.size < (w.alloc (.cells Y.toArray 22)).heap.size := by simp
  have hYs : (Try.prog.info? 22).map (·.size) = some Y.length := by rw [hY.out]; exact Try.len22 hp.bytes.1
  have hn : n ≤ 1048576 := by omega
  have hm : m ≤ 1048576 := by omega
  have hd1 : decide ((1048576 : Int) < (n : Int)) = false := by simp; omega
  have hd2 : decide ((1048576 : Int) < (m : Int)) = false := by simp; omega
  have hd3 : decide ((1048576 : Int) < 40 * (n : Int) + 16 * (m : Int)) = false := by simp; omega
  have hR1 := hR.later B1
  have hK1 := hRk.later B1
  go_enter Try.func6, Try.ntmps6
  go_wp2_with (refine wpList_load_mid rfl 22 (.tmp 5) rfl _ _ rfl Y _ hr Try.underlying22 rfl hYs ?_)
  generalize w.alloc (.cells Y.toArray 22) = w1 at *
  refine (bytes17 s n c Y.toArray q s2 m c2 w1 (by omega) (by omega)).mono ?_
  rintro e w2 ⟨⟨b, rfl⟩, B2⟩
  have B12 : Below w.heap.size w w2 := B1.trans (B2.mono B1.size)
  have hr2 := rangeAt_later hr B2
  have hs2 : w.heap.size < w2.heap.size := by have := B2.size; omega
  have hR2 := hR1.later B2
  have hK2 := hK1.later B2
  cases b with
  | false =>
    go_wp2
    go_ret
    exact ⟨rfl, B12⟩
  | true =>
    go_wp2_with fail
    refine (clone_any s n c (calls.map callCells) w2 (by omega) (by simpa using hl) hR2 hs).mono ?_
    rintro e w3 ⟨s', rfl, hR3, ha3, hs3, B3⟩
    have B13 : Below w.heap.size w w3 := B12.trans (B3.mono B12.size)
    have hr3 := rangeAt_later hr2 B3
    have hlt3 : w.heap.size < w3.heap.size := by have := B3.size; omega
    have hK3 := hK2.later B3
    clear hR hR1 hR2 hr hr2 hRk hK1 hK2
    go_wp2_with fail
    refine (side_any s2 m c2 (keys.map bcells) w3 (by omega) (by simpa using hl2) hK3 hsk).mono ?_
    rintro e w4 ⟨s2', rfl, hK4, hak4, hsk4, B4⟩
    have B14 : Below w.heap.size w w4 := B13.trans (B4.mono B13.size)
    have hr4 := rangeAt_later hr3 B4
    have hlt4 : w.heap.size < w4.heap.size := by have := B4.size; omega
    have hR4 := hR3.later B4
    have hG4 : ∀ G, s' = some ⟨G, 0, none⟩ → CallsIn w4 G n (fun j => (calls.getD j noCall).1) (fun j => (calls.getD j noCall).2.2) (fun j => (calls.getD j noCall).2.1) := fun G hG => by
      rw [← hl]; exact callsIn_of_rows hok (by rw [← hG]; exact hR4)
    generalize (fun j => (calls.getD j noCall).1) = src at hG4
    generalize (fun j => (calls.getD j noCall).2.2) = key at hG4
    generalize (fun j => (calls.getD j noCall).2.1) = seq at hG4
    clear hR3 hR4 hr3 hK3 ha3 hsk hs
    go_wp2_with fail
    refine (newSeen_any w4).mono ?_
    rintro e w5 ⟨rfl, rfl⟩
    go_wp2_with fail
    go_loopg [10] n (fun g z wr => ∃ k R O ne, k + g = n ∧ z = .int .i64 (k : Nat) ∧ S1 w4 wr R O ne)
    case atStart => exact ⟨0, _, _, 0, by omega, rfl, s1_start w4⟩
    case round =>
      obtain ⟨k, R, O, ne, hk, rfl, T⟩ := hrel
      have Hk : Hid (k + gk = n) := hk
      have hkn : k ≤ n := by omega
      clear hk
      by_cases hlt : k < n
      · have hd : decide ((k : Int) < (n : Int)) = true := by simp; omega
        obtain ⟨G, rfl⟩ := hs3 (by omega)
        have hC := (hG4 G rfl).later T.below
        have a1 := hC.atSrc k hlt
        have a2 := hC.atSeq k hlt
        have a3 := hC.atKey k hlt
        have hsk := hC.isSrc k
        have hkk := hC.isKey k
        have hS := T.seen
        go_wp2
        refine wp_region_chain [_, _, _, _, _, _, _, _, _, _, _, _, _, _, _, _] [_] rfl (by kernel_rfl) (by kernel_rfl) ?_
        repeat (first
          | go_big_quiet_skip
          | (go_big_quiet_want
             first
             | (refine quiet_mid 22 (.tmp 60) rfl _ _ rfl (bcells (src k)) _ (fun _ ⟨n, e⟩ => e ▸ rangeAt_drewN a1 n) Try.underlying22 rfl (Try.len22 hsk.bytes.1) ?_
                go_big_quiet_on
                simp only [Act.put, List.setIfInBounds_toArray, List.set_cons_zero, List.set_cons_succ])
             | (refine quiet_mid 22 (.tmp 70) rfl _ _ rfl (bcells (key k)) _ (fun _ ⟨n, e⟩ => e ▸ rangeAt_drewN a3 n) Try.underlying22 rfl (Try.len22 hkk.1) ?_
                go_big_quiet_on
                simp only [Act.put, List.setIfInBounds_toArray, List.set_cons_zero, List.set_cons_succ])
             | (go_big_quiet_op; go_big_quiet_on)))
        refine wpQuiet_nil ?_
        intro nq
        go_wp2_with fail
        refine (zzchain_any _ w4.heap.size ne R O (src k) (seq k) (key k) (bcells (src k)) (bcells (key k)) _ (hS.later (belowDrew (Below.refl _ wr) nq)) hsk hkk rfl rfl).mono ?_
        rintro e w6 ⟨rfl, R', O', ne', hS6, hK6, hC6⟩
        have T6 := T.step hS6 ⟨hK6.os, hK6.tape, hK6.output, hK6.size, hK6.block⟩ hC6
        clear hS6 hK6 hC6
        generalize acc ((look R O (src k) (seq k)).getD []) (key k) = bb at *
        go_wp2
        go_roundg (gk - 1)
        case rel =>
          have := Hk.out
          exact ⟨k + 1, R', O', ne', by omega, by go_num, T6⟩
        case measure => have := Hk.out; omega
      · have hd : decide ((k : Int) < (n : Int)) = false := by simp; omega
        have hr5 := rangeAt_later hr4 T.below
        obtain ⟨gs, gc, L, hLL, hI, hgc, hget⟩ := zzget_val T.seen hp Y hY
        obtain ⟨hnd, hle4, his⟩ := T.gr.look T.go S q
        rw [← hLL] at hnd hle4 his
        rw [his] at hget
        have HLL : Hid (L = (look R O S q).getD []) := hLL
        clear hLL his
        obtain ⟨nl, hnl⟩ : ∃ nl, L.length = nl := ⟨_, rfl⟩
        rw [hnl] at hget hle4 hgc
        have Hnl : Hid (L.length = nl) := hnl
        clear hnl Hk
        have hd4 : decide ((4 : Int) < (nl : Int)) = false := by simp; omega
        have hd4' : decide (4 < nl) = false := by simp; omega
        have hd4'' : ¬ 4 < nl := by omega
        obtain ⟨wo, rfl⟩ : ∃ wo : World, wo = wr := ⟨_, rfl⟩
        obtain ⟨g0, rfl⟩ : ∃ g0 : Nat, g0 = gk := ⟨_, rfl⟩
        have HT : Hid (S1 w4 wo R O ne) := T
        clear T
        go_wp2_with (refine wpList_load_mid rfl 22 (.tmp 5) rfl _ _ rfl Y _ hr5 Try.underlying22 rfl hYs ?_)
        refine (hget _ (Below.refl _ _)).mono ?_
        rintro e w7 ⟨rfl, B7⟩
        go_wp2
        have hI7 := hI.later B7
        have hrY7 := rangeAt_later hr5 B7
        clear hI hget hr5
        go_loopg [14, 15] nl (fun g h z wr => ∃ i : Nat, i + g = nl ∧ h = .int .i64 i ∧ z = .int .i64 i ∧ Held wr w7.heap.size (heldOf L i) ∧ Below w7.heap.size w7 wr)
        case atStart => exact ⟨0, by omega, rfl, rfl, held_start w7, (Below.refl _ _).alloc (Nat.le_refl _) _⟩
        case round =>
          obtain ⟨i, hi, rfl, rfl, hH, B8⟩ := hrel
          have Hi : Hid (i + gk = nl) := hi
          have hin : i ≤ nl := by omega
          clear hi
          by_cases hlt2 : i < nl
          · have hdi : decide ((i : Int) < (nl : Int)) = true := by simp; omega
            have hiL : i < L.length := by have := Hnl.out; omega
            have hx : L[i]? = some L[i] := List.getElem?_eq_getElem hiL
            have hxb := hI7.ids L[i] (List.getElem_mem _)
            obtain ⟨g, rfl⟩ := hI7.addr (by omega)
            have hrow := rangeAt_later (hI7.cells g rfl i _ hx) B8
            have hno := nodup_take hnd hx
            rw [← heldOf_take L (Nat.le_of_lt hiL)] at hno
            have hset := heldOf_set L hI7.le hx
            generalize L[i] = x at hx hxb hrow hno hset
            have Hset : Hid ((heldOf L i).set i x = heldOf L (i + 1)) := hset
            have Hno : Hid (¬ x ∈ (heldOf L i).take i) := hno
            clear hx hno hset
            have hrn := fun cs hcs => row_new wr hxb cs hcs 22
            have hi4 : i < 4 := by omega
            generalize heldOf L i = Hs at hH Hset Hno
            go_wp2_with (first
              | (refine wpList_load_mid rfl 23 (.tmp 98) rfl _ _ rfl (bcells x) _ hrow Try.underlying23 rfl (Try.len23 hxb.1) ?_)
              | (refine wpList_store_mid rfl 22 (.tmp 16) (.tmp 99) rfl _ _ (bcells x).toArray rfl rfl (hrn _ rfl).1 (by simpa using Try.len22 hxb.1) (all_oneCell_toArray (bcells_one x)) ?_)
              | (refine wpList_load_mid rfl 50 (.tmp 13) rfl _ _ rfl (flat Hs) _ (hH.later (hrn _ rfl).2.2).all Try.underlying50 rfl (Try.len50 hH.len hH.ids) ?_)
              | (refine wpList_load_mid rfl 22 (.tmp 16) rfl _ _ rfl (bcells x) _ (hrn _ rfl).2.1 Try.underlying22 rfl (Try.len22 hxb.1) ?_))
            obtain ⟨hN1, hN2⟩ := (hrn #[.int .u8 0, .int .u8 0, .int .u8 0, .int .u8 0, .int .u8 0, .int .u8 0, .int .u8 0, .int .u8 0, .int .u8 0, .int .u8 0, .int .u8 0, .int .u8 0, .int .u8 0, .int .u8 0, .int .u8 0, .int .u8 0] rfl).2
            clear hrn
            generalize (wr.alloc (Obj.cells #[.int .u8 0, .int .u8 0, .int .u8 0, .int .u8 0, .int .u8 0, .int .u8 0, .int .u8 0, .int .u8 0, .int .u8 0, .int .u8 0, .int .u8 0, .int .u8 0, .int .u8 0, .int .u8 0, .int .u8 0, .int .u8 0] 22)).setCells wr.heap.size 0 (bcells x) = wn at *
            have hH9 := hH.later hN2
            refine (holds_any Hs hH.len hH.ids i (by omega) x hxb (flat Hs) (bcells x) rfl rfl wn).mono ?_
            rintro e w9 ⟨rfl, B9⟩
            rw [decide_eq_false Hno.out]
            have hk9 := rangeAt_later hN1 B9
            have hH10 := hH9.later B9
            have B10 : Below w7.heap.size w7 w9 := (B8.trans (hN2.mono B8.size)).trans (B9.mono (Nat.le_trans B8.size hN2.size))
            clear hN1 hN2 hH9 hH B9
            have ht10 : w9.there w7.heap.size (i * 16) (bcells x).toArray.size := by rw [bcells_size hxb]; exact hH10.there hi4
            go_wp2_with (first
              | (refine wpList_load_mid rfl 22 (.tmp 16) rfl _ _ rfl (bcells x) _ hk9 Try.underlying22 rfl (Try.len22 hxb.1) ?_)
              | (refine wpList_store_mid rfl 22 (.tmp 106) (.tmp 105) rfl _ _ (bcells x).toArray rfl rfl ht10 (by simpa using Try.len22 hxb.1) (all_oneCell_toArray (bcells_one x)) ?_))
            go_roundg (gk - 1)
            case rel =>
              have := Hi.out
              refine ⟨i + 1, by omega, by go_num, by go_num, ?_, below_setCells B10 (Nat.le_refl _) _ _⟩
              rw [← Hset.out]
              exact hH10.set hi4 hxb
            case measure => have := Hi.out; omega
          · have hdi : decide ((i : Int) < (nl : Int)) = false := by simp; omega
            obtain rfl : i = nl := by omega
            have hT3 : S3 w4 w7.heap.size S q wr R O ne (heldOf L L.length) L := HT.out.to3 B7 B8 (by rw [Hnl.out]; exact hH) HLL.out
            have HT3 : Hid (S3 w4 w7.heap.size S q wr R O ne (heldOf L L.length) L) := hT3
            have HI : Hid (i = L.length) := Hnl.out.symm
            clear hT3 Hi hI7 hrY7 hH B8 HT HLL Hnl B7
            obtain ⟨wp, rfl⟩ : ∃ wo : World, wo = wr := ⟨_, rfl⟩
            obtain ⟨g1, rfl⟩ : ∃ g0 : Nat, g0 = gk := ⟨_, rfl⟩
            go_wp2
            go_loopg [14, 17] m (fun g h z wr => ∃ (j a : Nat) (R O : Rec) (ne : Nat) (Hs M : List (List Int)), j + g = m ∧ h = .int .i64 a ∧ M.length = a ∧ z = .int .i64 j ∧ S3 w4 w7.heap.size S q wr R O ne Hs M)
            case atStart => exact ⟨0, i, R, O, ne, _, L, by omega, rfl, HI.out.symm, rfl, HT3.out⟩
            case round =>
              obtain ⟨j, h, R', O', ne', Hs, M, hj, rfl, hh, rfl, T⟩ := hrel
              have Hj : Hid (j + gk = m) := hj
              have hjm : j ≤ m := by omega
              have hM4 := T.le
              rw [hh] at hM4
              have Hh : Hid (M.length = h) := hh
              clear hj hh
              by_cases hlt3 : j < m
              · have hdj : decide ((j : Int) < (m : Int)) = true := by simp; omega
                obtain ⟨g2, rfl⟩ := hsk4 (by omega)
                have hjk : j < keys.length := by omega
                have hxk : (keys.map bcells)[j]? = some (bcells keys[j]) := by simp [hjk]
                have hX := hkeys keys[j] (List.getElem_mem _)
                have hrk4 := hK4.cells g2 0 rfl j _ hxk
                rw [Nat.zero_add] at hrk4
                generalize keys[j] = X at hxk hX hrk4
                clear hxk hjk
                have hrk := rangeAt_later hrk4 T.below
                have htk := T.take
                rw [Hh.out] at htk
                have Htk : Hid (Hs.take h = M) := htk
                have hHd := T.held
                have hHa := hHd.all
                have HT8 : Hid (S3 w4 w7.heap.size S q wr R' O' ne' Hs M) := T
                have hne : Nonempty (Later wr) := ⟨⟨wr, Below.refl _ _⟩⟩
                clear htk T
                cases ha : acc M X with
                | true =>
                  obtain ⟨hxm, hm4⟩ : ¬ X ∈ M ∧ M.length < 4 := by simpa [acc] using ha
                  rw [Hh.out] at hm4
                  have hdh : decide ((h : Int) < 4) = true := by simp; omega
                  have hdh' : decide (h < 4) = true := by simp; omega
                  have hcall : ∀ x : Later wr, Calls Try.prog 20 #[.agg (flat Hs).toArray, .int .i64 h, .agg (bcells X).toArray] x.1 fun e w' => e = .returned (.bool false) ∧ Below x.1.heap.size x.1 w' := fun x => by
                    have := holds_any Hs hHd.len hHd.ids h (by omega) X hX (flat Hs) (bcells X) rfl rfl x.1
                    rwa [Htk.out, decide_eq_false hxm] at this
                  clear hxm
                  go_wp2
                  refine wp_region_later (by kernel_rfl) (by kernel_rfl) ?_
                  repeat (first
                    | go_big_quiet_skip
                    | (go_big_quiet_want
                       first
                       | (refine quiet_mid 50 (.tmp 13) rfl _ _ rfl (flat Hs) _ (fun _ ⟨x, e⟩ => e ▸ rangeAt_later hHa x.2) Try.underlying50 rfl (Try.len50 hHd.len hHd.ids) ?_
                          go_big_quiet_on
                          simp only [Act.put, List.setIfInBounds_toArray, List.set_cons_zero, List.set_cons_succ])
                       | (refine quiet_mid 22 (.tmp 122) rfl _ _ rfl (bcells X) _ (fun _ ⟨x, e⟩ => e ▸ rangeAt_later hrk x.2) Try.underlying22 rfl (Try.len22 hX.1) ?_
                          go_big_quiet_on
                          simp only [Act.put, List.setIfInBounds_toArray, List.set_cons_zero, List.set_cons_succ])
                       | (go_big_quiet_op; first | go_big_quiet_on | go_big_quiet_call ((go_at_call 20; exact Calls.later _ (hcall _))))))
                  refine wpQuiet_nil ?_
                  rintro w8 ⟨⟨_, B8⟩, rfl⟩
                  have T8 := HT8.out.later B8
                  have hrk8 := rangeAt_later hrk4 T8.below
                  have hrY8 := rangeAt_later hr4 T8.below
                  go_wp2
                  refine wp_region_chain [_, _, _, _, _, _, _] [_, _] rfl (by kernel_rfl) (by kernel_rfl) ?_
                  repeat (first
                    | go_big_quiet_skip
                    | (go_big_quiet_want
                       first
                       | (refine quiet_mid 22 (.tmp 5) rfl _ _ rfl Y _ (fun _ ⟨n, e⟩ => e ▸ rangeAt_drewN hrY8 n) Try.underlying22 rfl hYs ?_
                          go_big_quiet_on
                          simp only [Act.put, List.setIfInBounds_toArray, List.set_cons_zero, List.set_cons_succ])
                       | (refine quiet_mid 22 (.tmp 132) rfl _ _ rfl (bcells X) _ (fun _ ⟨n, e⟩ => e ▸ rangeAt_drewN hrk8 n) Try.underlying22 rfl (Try.len22 hX.1) ?_
                          go_big_quiet_on
                          simp only [Act.put, List.setIfInBounds_toArray, List.set_cons_zero, List.set_cons_succ])
                       | (go_big_quiet_op; go_big_quiet_on)))
                  refine wpQuiet_nil ?_
                  intro nq
                  go_wp2_with fail
                  refine (zzchain_any _ w4.heap.size ne' R' O' S q X Y (bcells X) _ (T8.seen.later (belowDrew (Below.refl _ w8) nq)) hp hX hY rfl).mono ?_
                  rintro e w9 ⟨rfl, R2, O2, ne2, hS9, hK9, hC9⟩
                  rw [T8.look, ha]
                  obtain ⟨ask0, ask1, hH9, B9⟩ := T8.ask hS9 ⟨hK9.os, hK9.tape, hK9.output, hK9.size, hK9.block⟩ hC9
                  clear hS9 hK9 hC9 hrY8 hrk8
                  have hT := ask1 ha hX
                  rw [Hh.out] at hT
                  have hrk9 := rangeAt_later hrk4 B9
                  have ht9 : w9.there w7.heap.size (h * 16) (bcells X).toArray.size := by rw [bcells_size hX]; exact hH9.there hm4
                  have HT9 : Hid (S3 w4 w7.heap.size S q (w9.setCells w7.heap.size (h * 16) (bcells X)) R2 O2 ne2 (Hs.set h X) (M ++ [X])) := hT
                  clear ask0 ask1 hT
                  go_wp2_with (first
                    | (refine wpList_load_mid rfl 22 (.tmp 142) rfl _ _ rfl (bcells X) _ hrk9 Try.underlying22 rfl (Try.len22 hX.1) ?_)
                    | (refine wpList_store_mid rfl 22 (.tmp 144) (.tmp 143) rfl _ _ (bcells X).toArray rfl rfl ht9 (by simpa using Try.len22 hX.1) (all_oneCell_toArray (bcells_one X)) ?_))
                  go_roundg (gk - 1)
                  case rel =>
                    have := Hj.out
                    have := Hh.out
                    exact ⟨j + 1, h + 1, R2, O2, ne2, _, M ++ [X], by omega, by go_num, by simp; omega, by go_num, HT9.out⟩
                  case measure => have := Hj.out; omega
                | false =>
                  by_cases hm4 : h < 4
                  · have hxm : X ∈ M := by
                      have := Hh.out
                      have h1 : X ∈ M ∨ 4 ≤ M.length := by
                        by_cases hx : X ∈ M
                        · exact .inl hx
                        · simp [acc, hx] at ha; exact .inr ha
                      rcases h1 with h1 | h1
                      · exact h1
                      · omega
                    have hdh : decide ((h : Int) < 4) = true := by simp; omega
                    have hdh' : decide (h < 4) = true := by simp; omega
                    have hcall : ∀ x : Later wr, Calls Try.prog 20 #[.agg (flat Hs).toArray, .int .i64 h, .agg (bcells X).toArray] x.1 fun e w' => e = .returned (.bool true) ∧ Below x.1.heap.size x.1 w' := fun x => by
                      have := holds_any Hs hHd.len hHd.ids h (by omega) X hX (flat Hs) (bcells X) rfl rfl x.1
                      rwa [Htk.out, decide_eq_true hxm] at this
                    clear hxm
                    go_wp2
                    refine wp_region_later (by kernel_rfl) (by kernel_rfl) ?_
                    repeat (first
                      | go_big_quiet_skip
                      | (go_big_quiet_want
                         first
                         | (refine quiet_mid 50 (.tmp 13) rfl _ _ rfl (flat Hs) _ (fun _ ⟨x, e⟩ => e ▸ rangeAt_later hHa x.2) Try.underlying50 rfl (Try.len50 hHd.len hHd.ids) ?_
                            go_big_quiet_on
                            simp only [Act.put, List.setIfInBounds_toArray, List.set_cons_zero, List.set_cons_succ])
                         | (refine quiet_mid 22 (.tmp 122) rfl _ _ rfl (bcells X) _ (fun _ ⟨x, e⟩ => e ▸ rangeAt_later hrk x.2) Try.underlying22 rfl (Try.len22 hX.1) ?_
                            go_big_quiet_on
                            simp only [Act.put, List.setIfInBounds_toArray, List.set_cons_zero, List.set_cons_succ])
                         | (go_big_quiet_op; first | go_big_quiet_on | go_big_quiet_call ((go_at_call 20; exact Calls.later _ (hcall _))))))
                    refine wpQuiet_nil ?_
                    rintro w8 ⟨⟨_, B8⟩, rfl⟩
                    have T8 := HT8.out.later B8
                    have hrk8 := rangeAt_later hrk4 T8.below
                    have hrY8 := rangeAt_later hr4 T8.below
                    go_wp2
                    refine wp_region_chain [_, _, _, _, _, _, _] [_, _] rfl (by kernel_rfl) (by kernel_rfl) ?_
                    repeat (first
                      | go_big_quiet_skip
                      | (go_big_quiet_want
                         first
                         | (refine quiet_mid 22 (.tmp 5) rfl _ _ rfl Y _ (fun _ ⟨n, e⟩ => e ▸ rangeAt_drewN hrY8 n) Try.underlying22 rfl hYs ?_
                            go_big_quiet_on
                            simp only [Act.put, List.setIfInBounds_toArray, List.set_cons_zero, List.set_cons_succ])
                         | (refine quiet_mid 22 (.tmp 132) rfl _ _ rfl (bcells X) _ (fun _ ⟨n, e⟩ => e ▸ rangeAt_drewN hrk8 n) Try.underlying22 rfl (Try.len22 hX.1) ?_
                            go_big_quiet_on
                            simp only [Act.put, List.setIfInBounds_toArray, List.set_cons_zero, List.set_cons_succ])
                         | (go_big_quiet_op; go_big_quiet_on)))
                    refine wpQuiet_nil ?_
                    intro nq
                    go_wp2_with fail
                    refine (zzchain_any _ w4.heap.size ne' R' O' S q X Y (bcells X) _ (T8.seen.later (belowDrew (Below.refl _ w8) nq)) hp hX hY rfl).mono ?_
                    rintro e w9 ⟨rfl, R2, O2, ne2, hS9, hK9, hC9⟩
                    rw [T8.look, ha]
                    obtain ⟨ask0, ask1, hH9, B9⟩ := T8.ask hS9 ⟨hK9.os, hK9.tape, hK9.output, hK9.size, hK9.block⟩ hC9
                    clear hS9 hK9 hC9 hrY8 hrk8
                    have hT := ask0 ha
                    have HT9 : Hid (S3 w4 w7.heap.size S q w9 R2 O2 ne2 Hs M) := hT
                    clear ask0 ask1 hT
                    go_wp2
                    go_roundg (gk - 1)
                    case rel =>
                      have := Hj.out
                      exact ⟨j + 1, h, R2, O2, ne2, Hs, M, by omega, rfl, Hh.out, by go_num, HT9.out⟩
                    case measure => have := Hj.out; omega
                  · have hdh : decide ((h : Int) < 4) = false := by simp; omega
                    have hdh' : decide (h < 4) = false := by simp; omega
                    go_wp2
                    refine wp_region_later (by kernel_rfl) (by kernel_rfl) ?_
                    repeat (first
                      | go_big_quiet_skip
                      | (go_big_quiet_want
                         first
                         | (refine quiet_mid 50 (.tmp 13) rfl _ _ rfl (flat Hs) _ (fun _ ⟨x, e⟩ => e ▸ rangeAt_later hHa x.2) Try.underlying50 rfl (Try.len50 hHd.len hHd.ids) ?_
                            go_big_quiet_on
                            simp only [Act.put, List.setIfInBounds_toArray, List.set_cons_zero, List.set_cons_succ])
                         | (refine quiet_mid 22 (.tmp 122) rfl _ _ rfl (bcells X) _ (fun _ ⟨x, e⟩ => e ▸ rangeAt_later hrk x.2) Try.underlying22 rfl (Try.len22 hX.1) ?_
                            go_big_quiet_on
                            simp only [Act.put, List.setIfInBounds_toArray, List.set_cons_zero, List.set_cons_succ])
                         | (go_big_quiet_op; first | go_big_quiet_on | go_big_quiet_call ((go_at_call 20; exact Calls.later _ (hcall _))))))
                    refine wpQuiet_nil ?_
                    rintro w8 ⟨⟨_, B8⟩, rfl⟩
                    have T8 := HT8.out.later B8
                    have hrk8 := rangeAt_later hrk4 T8.below
                    have hrY8 := rangeAt_later hr4 T8.below
                    go_wp2
                    refine wp_region_chain [_, _, _, _, _, _, _] [_, _] rfl (by kernel_rfl) (by kernel_rfl) ?_
                    repeat (first
                      | go_big_quiet_skip
                      | (go_big_quiet_want
                         first
                         | (refine quiet_mid 22 (.tmp 5) rfl _ _ rfl Y _ (fun _ ⟨n, e⟩ => e ▸ rangeAt_drewN hrY8 n) Try.underlying22 rfl hYs ?_
                            go_big_quiet_on
                            simp only [Act.put, List.setIfInBounds_toArray, List.set_cons_zero, List.set_cons_succ])
                         | (refine quiet_mid 22 (.tmp 132) rfl _ _ rfl (bcells X) _ (fun _ ⟨n, e⟩ => e ▸ rangeAt_drewN hrk8 n) Try.underlying22 rfl (Try.len22 hX.1) ?_
                            go_big_quiet_on
                            simp only [Act.put, List.setIfInBounds_toArray, List.set_cons_zero, List.set_cons_succ])
                         | (go_big_quiet_op; go_big_quiet_on)))
                    refine wpQuiet_nil ?_
                    intro nq
                    go_wp2_with fail
                    refine (zzchain_any _ w4.heap.size ne' R' O' S q X Y (bcells X) _ (T8.seen.later (belowDrew (Below.refl _ w8) nq)) hp hX hY rfl).mono ?_
                    rintro e w9 ⟨rfl, R2, O2, ne2, hS9, hK9, hC9⟩
                    rw [T8.look, ha]
                    obtain ⟨ask0, ask1, hH9, B9⟩ := T8.ask hS9 ⟨hK9.os, hK9.tape, hK9.output, hK9.size, hK9.block⟩ hC9
                    clear hS9 hK9 hC9 hrY8 hrk8
                    have hT := ask0 ha
                    have HT9 : Hid (S3 w4 w7.heap.size S q w9 R2 O2 ne2 Hs M) := hT
                    clear ask0 ask1 hT
                    go_wp2
                    go_roundg (gk - 1)
                    case rel =>
                      have := Hj.out
                      exact ⟨j + 1, h, R2, O2, ne2, Hs, M, by omega, rfl, Hh.out, by go_num, HT9.out⟩
                    case measure => have := Hj.out; omega
              · have hdj : decide ((j : Int) < (m : Int)) = false := by simp; omega
                have hrY := rangeAt_later hr4 T.below
                obtain ⟨gs2, gc2, L2, hL2, hI2, hgc2, hget2⟩ := zzget_val T.seen hp Y hY
                rw [T.look] at hL2
                have hL3 := hL2.symm
                subst hL3
                rw [T.isSome, Hh.out] at hget2
                have hHd := T.held
                have Htk : Hid (Hs.take M.length = M) := T.take
                have hB4 := T.below
                clear T Hj HT3 HI
                rw [Hh.out] at hgc2
                obtain ⟨wq, rfl⟩ : ∃ wo : World, wo = wr := ⟨_, rfl⟩
                obtain ⟨g3, rfl⟩ : ∃ g0 : Nat, g0 = gk := ⟨_, rfl⟩
                go_wp2_with (refine wpList_load_mid rfl 22 (.tmp 5) rfl _ _ rfl Y _ hrY Try.underlying22 rfl hYs ?_)
                refine (hget2 _ (Below.refl _ _)).mono ?_
                rintro e w8 ⟨rfl, B8⟩
                have hI8 := hI2.later B8
                have hH8 := hHd.later B8
                have BB0 : Below w.heap.size w wq := B14.trans (hB4.mono B14.size)
                have BB : Below w.heap.size w w8 := BB0.trans (B8.mono BB0.size)
                clear hget2 hI2 hHd hrY BB0
                go_wp2
                go_loopg [22] h (fun g z wr => ∃ i : Nat, i + g = h ∧ z = .int .i64 i ∧ Below w8.heap.size w8 wr)
                case atStart => exact ⟨0, by omega, rfl, Below.refl _ _⟩
                case round =>
                  obtain ⟨i2, hi2, rfl, B9⟩ := hrel
                  have Hi2 : Hid (i2 + gk = h) := hi2
                  have hih : i2 ≤ h := by omega
                  clear hi2
                  by_cases hlt4' : i2 < h
                  · have hdi : decide ((i2 : Int) < (h : Int)) = true := by simp; omega
                    have hiM : i2 < M.length := by have := Hh.out; omega
                    have hi4 : i2 < 4 := by omega
                    have hx : M[i2]? = some M[i2] := List.getElem?_eq_getElem hiM
                    have hxb := hI8.ids M[i2] (List.getElem_mem _)
                    obtain ⟨ga, rfl⟩ := hI8.addr (by omega)
                    have hra := rangeAt_later (hI8.cells ga rfl i2 _ hx) B9
                    have hHx : Hs[i2]? = some M[i2] := by
                      have e : (Hs.take M.length)[i2]? = M[i2]? := by rw [Htk.out]
                      rw [List.getElem?_take, if_pos hiM] at e
                      rw [e, hx]
                    have hrb := rangeAt_later (hH8.rows i2 _ hHx) B9
                    generalize M[i2] = x at hx hxb hra hHx hrb
                    clear hx hHx hiM
                    have g22 := Try.guard22
                    have ek : ∀ W, (Op.equalIn 10000 22 (.agg (bcells x).toArray) (.agg (bcells x).toArray)).run Try.prog W = .ok true W := fun W => by
                      have := run_equalIn_bytes' W 9998 22 16 Try.underlying22 x x hxb.1 hxb.1
                      simpa using this
                    go_wp2
                    refine wp_region_quiet_lit (by kernel_rfl) (by kernel_rfl) ?_
                    repeat (first
                      | go_big_quiet_skip
                      | (go_big_quiet_want
                         first
                         | (refine quiet_mid 23 (.tmp 171) rfl _ _ rfl (bcells x) _ (fun _ ⟨n, e⟩ => e ▸ rangeAt_drewN hra n) Try.underlying23 rfl (Try.len23 hxb.1) ?_
                            go_big_quiet_on
                            simp only [Act.put, List.setIfInBounds_toArray, List.set_cons_zero, List.set_cons_succ])
                         | (refine quiet_mid 22 (.tmp 174) rfl _ _ rfl (bcells x) _ (fun _ ⟨n, e⟩ => e ▸ rangeAt_drewN hrb n) Try.underlying22 rfl (Try.len22 hxb.1) ?_
                            go_big_quiet_on
                            simp only [Act.put, List.setIfInBounds_toArray, List.set_cons_zero, List.set_cons_succ])
                         | (go_big_quiet_op; go_big_quiet_on)))
                    refine wpQuiet_nil ?_
                    rintro _ ⟨nq, rfl⟩
                    go_wp2
                    go_roundg (gk - 1)
                    case rel =>
                      have := Hi2.out
                      exact ⟨i2 + 1, by omega, by go_num, (belowDrew B9 _)⟩
                    case measure => have := Hi2.out; omega
                  · have hdi : decide ((i2 : Int) < (h : Int)) = false := by simp; omega
                    go_wp2
                    go_ret
                    exact ⟨rfl, BB.trans (B9.mono BB.size)⟩
end Go.Proofs.Qxb6602021a
