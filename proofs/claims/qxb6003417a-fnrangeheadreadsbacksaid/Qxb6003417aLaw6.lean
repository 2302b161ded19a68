import Derived.Test.Qxb6003417aAt
namespace Go.Proofs.Qxb6003417a
open Go.ChangeShapes Go.WideShapes Go.ChangeAt Go.RowKit
set_option linter.unusedVariables false
set_option linter.unusedSimpArgs false

theorem zzhead_at (B nP nS nE nL : Nat) (tP : Option Addr) (P S E L : List Int) (sS sE sL : Option Addr) (cS cE cL : Nat) (after hasEnd more : Bool) (w : World) (hown : Own B w (.slice tP nP nP) P) (kS : Key w (.slice tP nP nP) sS S) (kE : Key w (.slice tP nP nP) sE E) (kL : Key w (.slice tP nP nP) sL L)
    (lP : Hid (P.length = nP)) (lS : Hid (S.length = nS)) (lE : Hid (E.length = nE)) (lL : Hid (L.length = nL)) (hb : nP + nS + nE + nL ≤ 1048576) (hB : B ≤ w.heap.size) :
    Calls Try.prog 22 #[.slice tP nP nP, .agg #[.slice sS nS cS, .bool after, .slice sE nE cE, .bool hasEnd], .bool more, .slice sL nL cL] w fun e w' => ∃ v', e = .returned v' ∧ AppTo B w w' (.slice tP nP nP) v' P (rangeHead after hasEnd more S E L) := by
  have h := zzhead_any B (.slice tP nP nP) P S E L sS sE sL cS cE cL after hasEnd more w hown kS kE kL (by have := lP.out; have := lS.out; have := lE.out; have := lL.out; omega) hB
  rw [lS.out, lE.out, lL.out] at h
  exact h

/-- The text that was made. -/
structure Out (w : World) (g N cap : Nat) (T : List Int) : Prop where
  len : T.length = N
  cap : N ≤ cap
  cell : ∀ j u, (bcells T)[j]? = some u → w.cell? ⟨g, j, none⟩ = some u

theorem Out.drewN {w : World} {g N cap : Nat} {T : List Int} (h : Out w g N cap T) (q : Nat) : Out (w.drewN q) g N cap T := ⟨h.len, h.cap, h.cell⟩

theorem out_of {B : Nat} {w w' : World} {v v' : Value} {P H : List Int} (A : AppTo B w w' v v' P H) (h : H ≠ []) : ∃ g N cap, v' = .slice (some ⟨g, 0, none⟩) N cap ∧ Out w' g N cap (P ++ H) := by
  have ho := A.own
  rcases ho with ⟨_, e⟩ | ⟨g, cap, cur, hv, hB, hg, hc, hs, ht⟩
  · simp [h] at e
  · refine ⟨g, _, cap, hv, rfl, hc, fun j u hu => ?_⟩
    have := Own.cells (B := B) (g := g) (n := (P ++ H).length) (cap := cap) (.inr ⟨g, cap, cur, rfl, hB, hg, hc, hs, ht⟩) j u hu
    rwa [Addr.add_lit, Nat.zero_add] at this

theorem rangeHead_ne (a h m : Bool) (S E L : List Int) : rangeHead a h m S E L ≠ [] := by simp [rangeHead]

/-- The prefix as it stands at the text's head. -/
theorem Out.front {w : World} {g N cap : Nat} {P H : List Int} (h : Out w g N cap (P ++ H)) : BL w (some ⟨g, 0, none⟩) P := by
  refine ⟨(by intro h; cases h), fun x hx j u hu => ?_⟩
  obtain rfl := Option.some.inj hx
  rw [Addr.add_lit, Nat.zero_add]
  exact h.cell j u (by rw [bcells_append, List.getElem?_append_left (List.getElem?_eq_some_iff.1 hu).1]; exact hu)

/-- The places at which the reader stands, and what lies there. -/
structure Plan (w : World) (g N nP nS nE nL : Nat) (S E L : List Int) (after hasEnd more : Bool) (p1 p2 p3 p4 p5 : Nat) : Prop where
  i0 : nP < N
  i1 : p1 ≤ N
  i2 : p2 < N
  i3 : p3 ≤ N
  i4 : p4 < N
  i5 : p5 ≤ N
  top : N ≤ 2097152
  h1 : p1 = nP + 1
  h2 : p2 = p1 + (uv S.length ++ S).length
  h3 : p3 = p2 + 1
  hE : hasEnd = true → p4 = p3 + (uv E.length ++ E).length
  hE' : hasEnd = false → p4 = p3
  h5 : p5 = p4 + 1
  hL : more = true → N = p5 + (uv L.length ++ L).length
  hL' : more = false → N = p5
  f0 : w.cell? ⟨g, nP, none⟩ = some (.int .u8 (flagB after))
  f1 : ∀ j u, (bcells (uv S.length ++ S))[j]? = some u → w.cell? ⟨g, p1 + j, none⟩ = some u
  f2 : w.cell? ⟨g, p2, none⟩ = some (.int .u8 (flagB hasEnd))
  f3 : hasEnd = true → ∀ j u, (bcells (uv E.length ++ E))[j]? = some u → w.cell? ⟨g, p3 + j, none⟩ = some u
  f4 : w.cell? ⟨g, p4, none⟩ = some (.int .u8 (flagB more))
  f5 : more = true → ∀ j u, (bcells (uv L.length ++ L))[j]? = some u → w.cell? ⟨g, p5 + j, none⟩ = some u

theorem plan_of {w6 : World} {g N cap nP nS nE nL : Nat} {P S E L : List Int} {after hasEnd more : Bool} (O : Out w6 g N cap (P ++ rangeHead after hasEnd more S E L))
    (lP : Hid (P.length = nP)) (lS : Hid (S.length = nS)) (lE : Hid (E.length = nE)) (lL : Hid (L.length = nL)) (hs : nP + nS + nE + nL ≤ 1048576) :
    ∃ p1 p2 p3 p4 p5, Plan w6 g N nP nS nE nL S E L after hasEnd more p1 p2 p3 p4 p5 := by
  obtain ⟨EE, hEE⟩ : ∃ EE, EE = (if hasEnd then uv E.length ++ E else []) := ⟨_, rfl⟩
  obtain ⟨LL, hLL⟩ : ∃ LL, LL = (if more then uv L.length ++ L else []) := ⟨_, rfl⟩
  obtain ⟨SS, hSS⟩ : ∃ SS, SS = uv S.length ++ S := ⟨_, rfl⟩
  have hT : rangeHead after hasEnd more S E L = [flagB after] ++ (SS ++ ([flagB hasEnd] ++ (EE ++ ([flagB more] ++ LL)))) := by rw [hEE, hLL, hSS]; rfl
  rw [hT] at O
  have hlen : N = nP + 1 + SS.length + 1 + EE.length + 1 + LL.length := by
    have h1 := O.len
    have h2 := lP.out
    simp only [List.length_append, List.length_cons, List.length_nil] at h1
    omega
  have hss : SS.length = (uv nS).length + nS := by rw [hSS, List.length_append, lS.out]
  have hel : EE.length ≤ 3 + nE := by
    rw [hEE]; split
    · rw [List.length_append, lE.out]; have := uv_len nE; omega
    · simp
  have hll : LL.length ≤ 3 + nL := by
    rw [hLL]; split
    · rw [List.length_append, lL.out]; have := uv_len nL; omega
    · simp
  have hsl := uv_len nS
  have hNP : nP ≤ N := by omega
  have hN2 : N ≤ 2097152 := by omega
  obtain ⟨p1, hp1⟩ : ∃ p1, p1 = nP + 1 := ⟨_, rfl⟩
  obtain ⟨p2, hp2⟩ : ∃ p2, p2 = p1 + SS.length := ⟨_, rfl⟩
  obtain ⟨p3, hp3⟩ : ∃ p3, p3 = p2 + 1 := ⟨_, rfl⟩
  obtain ⟨p4, hp4⟩ : ∃ p4, p4 = p3 + EE.length := ⟨_, rfl⟩
  obtain ⟨p5, hp5⟩ : ∃ p5, p5 = p4 + 1 := ⟨_, rfl⟩
  have hp6 : N = p5 + LL.length := by omega
  have i0 : nP < N := by omega
  have i1 : p1 ≤ N := by omega
  have i2 : p2 < N := by omega
  have i3 : p3 ≤ N := by omega
  have i4 : p4 < N := by omega
  have i5 : p5 ≤ N := by omega
  have f0 := seg1 O.cell (A := P) (y := flagB after) (by simp; rfl) (pos := nP) lP.out.symm
  have f1 := seg O.cell (A := P ++ [flagB after]) (X := SS) (C := [flagB hasEnd] ++ (EE ++ ([flagB more] ++ LL))) (by simp) (pos := p1) (by simp [lP.out, hp1])
  have f2 := seg1 O.cell (A := P ++ [flagB after] ++ SS) (y := flagB hasEnd) (C := EE ++ ([flagB more] ++ LL)) (by simp) (pos := p2) (by simp [lP.out, hp2, hp1]; omega)
  have f3 := seg O.cell (A := P ++ [flagB after] ++ SS ++ [flagB hasEnd]) (X := EE) (C := [flagB more] ++ LL) (by simp) (pos := p3) (by simp [lP.out, hp3, hp2, hp1]; omega)
  have f4 := seg1 O.cell (A := P ++ [flagB after] ++ SS ++ [flagB hasEnd] ++ EE) (y := flagB more) (C := LL) (by simp) (pos := p4) (by simp [lP.out, hp4, hp3, hp2, hp1]; omega)
  have f5 := seg O.cell (A := P ++ [flagB after] ++ SS ++ [flagB hasEnd] ++ EE ++ [flagB more]) (X := LL) (C := []) (by simp) (pos := p5) (by simp [lP.out, hp5, hp4, hp3, hp2, hp1]; omega)
  refine ⟨p1, p2, p3, p4, p5, i0, i1, i2, i3, i4, i5, hN2, hp1, by rw [← hSS]; exact hp2, hp3, ?_, ?_, hp5, ?_, ?_, f0, by rw [← hSS]; exact f1, f2, ?_, f4, ?_⟩
  · intro h; rw [if_pos h] at hEE; rw [← hEE]; exact hp4
  · intro h; rw [if_neg (by simp [h])] at hEE; rw [hEE] at hp4; simpa using hp4
  · intro h; rw [if_pos h] at hLL; rw [← hLL]; exact hp6
  · intro h; rw [if_neg (by simp [h])] at hLL; rw [hLL] at hp6; simpa using hp6
  · intro h; rw [if_pos h] at hEE; rw [← hEE]; exact f3
  · intro h; rw [if_pos h] at hLL; rw [← hLL]; exact f5

theorem Plan.drewN {w : World} {g N nP nS nE nL : Nat} {S E L : List Int} {after hasEnd more : Bool} {p1 p2 p3 p4 p5 : Nat} (h : Plan w g N nP nS nE nL S E L after hasEnd more p1 p2 p3 p4 p5) (q : Nat) : Plan (w.drewN q) g N nP nS nE nL S E L after hasEnd more p1 p2 p3 p4 p5 :=
  ⟨h.i0, h.i1, h.i2, h.i3, h.i4, h.i5, h.top, h.h1, h.h2, h.h3, h.hE, h.hE', h.h5, h.hL, h.hL', h.f0, h.f1, h.f2, h.f3, h.f4, h.f5⟩

theorem ret_true {b : Bool} (h : b = true) : Ending.returned (.bool b) = .returned (.bool true) := by rw [h]

set_option maxRecDepth 100000 in
set_option maxHeartbeats 4000000 in
theorem law6_main (sP sS sE sL : Option Addr) (nP nS nE nL cP cS cE cL : Nat) (P S E L : List Int) (after hasEnd more : Bool) (w : World)
    (hP : BL w sP P) (hS : BL w sS S) (hE : BL w sE E) (hL : BL w sL L) (lP : Hid (P.length = nP)) (lS : Hid (S.length = nS)) (lE : Hid (E.length = nE)) (lL : Hid (L.length = nL)) (hs : nP + nS + nE + nL ≤ 1048576) :
    Calls Try.prog 6 #[.slice sP nP cP, .slice sS nS cS, .bool after, .slice sE nE cE, .bool hasEnd, .bool more, .slice sL nL cL] w fun e w' => e = .returned (.bool true) ∧ Below w.heap.size w w' := by
  go_enter Try.func6, Try.ntmps6
  go_wp2_with (first | (go_at_call 21; go_in))
  refine (clone_at sP nP cP P w lP (by omega) hP).mono ?_
  rintro e w1 ⟨tP, rfl, KP⟩
  have hS1 := hS.later KP.below
  have hE1 := hE.later KP.below
  have hL1 := hL.later KP.below
  clear hP hS hE hL
  go_wp2_with fail
  refine (clone_at sS nS cS S w1 lS (by omega) hS1).mono ?_
  rintro e w2 ⟨tS, rfl, KS⟩
  have hE2 := hE1.later KS.below
  have hL2 := hL1.later KS.below
  clear hS1 hE1 hL1
  go_wp2_with fail
  refine (clone_at sE nE cE E w2 lE (by omega) hE2).mono ?_
  rintro e w3 ⟨tE, rfl, KE⟩
  have hL3 := hL2.later KE.below
  clear hE2 hL2
  go_wp2_with fail
  refine (clone_at sL nL cL L w3 lL (by omega) hL3).mono ?_
  rintro e w4 ⟨tL, rfl, KL⟩
  clear hL3
  go_wp2_with fail
  have B1 : Below w.heap.size w w1 := KP.below
  have B2 : Below w1.heap.size w1 w2 := KS.below
  have B3 : Below w2.heap.size w2 w3 := KE.below
  have B4 : Below w3.heap.size w3 w4 := KL.below
  have z1 := B1.size
  have z2 := B2.size
  have z3 := B3.size
  have z4 := B4.size
  generalize hW : w4.alloc (.cells #[.slice tS nS nS, .bool after, .slice tE nE nE, .bool hasEnd] 38) = W
  have B5 : Below w4.heap.size w4 W := by rw [← hW]; exact (Below.refl _ _).alloc (Nat.le_refl _) _
  clear hW
  have z5 := B5.size
  have B45 : Below w3.heap.size w3 W := B4.trans (B5.mono z4)
  have B35 : Below w2.heap.size w2 W := B3.trans (B45.mono z3)
  have B25 : Below w1.heap.size w1 W := B2.trans (B35.mono z2)
  have BW : Below w.heap.size w W := B1.trans (B25.mono z1)
  have oP1 := KP.own (B := w.heap.size) lP.out (Nat.le_refl _)
  have vlt := oP1.lt
  have oP := oP1.below B25 (Nat.le_refl _)
  have kS := KS.key (w2 := W) B35 (fun g hg => vlt g hg)
  have kE := KE.key (w2 := W) B45 (fun g hg => Nat.lt_of_lt_of_le (vlt g hg) z2)
  have kL := KL.key (w2 := W) B5 (fun g hg => Nat.lt_of_lt_of_le (vlt g hg) (Nat.le_trans z2 z3))
  have bP := KP.bl.later B25
  have tPh : ∀ x, tP = some x → ∃ g, x = ⟨g, 0, none⟩ := fun x hx => ⟨_, (KP.head x hx).1⟩
  clear KP KS KE KL B1 B2 B3 B4 B5 B45 B35 B25 oP1 vlt
  refine (zzhead_at w.heap.size nP nS nE nL tP P S E L tS tE tL nS nE nL after hasEnd more W oP kS kE kL lP lS lE lL hs BW.size).mono ?_
  rintro e w6 ⟨v6, rfl, A⟩
  obtain ⟨g, N, cap, rfl, O⟩ := out_of A (rangeHead_ne _ _ _ _ _ _)
  have bP6 := A.prefixKept bP tPh
  have kS6 := (A.key kS).bl
  have kE6 := (A.key kE).bl
  have kL6 := (A.key kL).bl
  have BW6 : Below w.heap.size w w6 := BW.trans A.below
  clear A kS kE kL bP oP BW z1 z2 z3 z4 z5 tPh
  obtain ⟨p1, p2, p3, p4, p5, Z⟩ := plan_of O lP lS lE lL hs
  have front := O.front
  have hNc := O.cap
  clear O
  have i0 := Z.i0
  have top := Z.top
  go_wp2_with fail
  refine (eq_any (some ⟨g, 0, none⟩) tP cap nP nP P w6 front bP6 lP (by omega)).mono ?_
  rintro e w7' ⟨rfl, q, rfl⟩
  have Z7 := Z.drewN q
  have kS7 := kS6.drewN q
  have kE7 := kE6.drewN q
  have kL7 := kL6.drewN q
  have BW7 : Below w.heap.size w (w6.drewN q) := below_drewN' BW6 q
  generalize w6.drewN q = w7 at *
  clear Z kS6 kE6 kL6 BW6 bP6 front
  go_wp2_with fail
  refine (readFlag_at g N cap nP p1 after w7 Z7.h1 i0 top Z7.f0).mono ?_
  rintro e w8 ⟨rfl, rfl⟩
  go_wp2_with fail
  refine (readKey_at g N cap p1 p2 nS S w7 lS Z7.h2 (by omega) (Nat.le_of_lt Z7.i2) hNc top Z7.f1).mono ?_
  rintro e w8 ⟨s8, c8, rfl, b8, rfl⟩
  go_wp2_with fail
  refine (eq_any s8 tS c8 nS nS S w7 b8 kS7 lS (by omega)).mono ?_
  rintro e w8' ⟨rfl, q8, rfl⟩
  have Z8 := Z7.drewN q8
  have kE8 := kE7.drewN q8
  have kL8 := kL7.drewN q8
  have BW8 : Below w.heap.size w (w7.drewN q8) := below_drewN' BW7 q8
  generalize w7.drewN q8 = w8 at *
  clear Z7 kS7 kE7 kL7 BW7 b8
  go_wp2_with fail
  refine (readFlag_at g N cap p2 p3 hasEnd w8 Z8.h3 Z8.i2 top Z8.f2).mono ?_
  rintro e w9 ⟨rfl, rfl⟩
  cases hasEnd
  · have h4 := Z8.hE' rfl
    subst h4
    go_wp2_with fail
    refine (readFlag_at g N cap p4 p5 more w8 Z8.h5 Z8.i4 top Z8.f4).mono ?_
    rintro e wx ⟨rfl, rfl⟩
    cases more
    · have hN := Z8.hL' rfl
      subst hN
      obtain ⟨ks, hks⟩ : ∃ ks, Hid (ks = (uv nS).length + nS) := ⟨_, rfl⟩
      have uS := uv_len nS
      have lks : ks ≤ 3 + nS := by have := hks.out; omega
      go_wp2_with fail
      refine (keySize_at tS nS nS ks w8 hks (by omega)).mono ?_
      rintro e wa ⟨rfl, ba⟩
      have Ba := BW8.trans (ba.mono BW8.size)
      clear ba
      go_wp2_with fail
      go_ret
      refine ⟨ret_true ?_, Ba⟩
      have e2 : (uv S.length ++ S).length = (uv nS).length + nS := by rw [List.length_append, lS.out]
      have y1 := Z8.h1
      have y2 := Z8.h2
      have y3 := Z8.h3
      have y5 := Z8.h5
      have y6 := hks.out
      rw [beq_iff_eq]
      omega
    · go_wp2_with fail
      refine (readKey_at g N cap p5 N nL L w8 lL (Z8.hL rfl) (by omega) (Nat.le_refl _) hNc top (Z8.f5 rfl)).mono ?_
      rintro e wx ⟨sx, cx, rfl, bx, rfl⟩
      go_wp2_with fail
      refine (eq_any sx tL cx nL nL L w8 bx kL8 lL (by omega)).mono ?_
      rintro e wy' ⟨rfl, qx, rfl⟩
      have ZX := Z8.drewN qx
      have BX : Below w.heap.size w (w8.drewN qx) := below_drewN' BW8 qx
      generalize w8.drewN qx = wy at *
      clear Z8 kL8 BW8 bx
      obtain ⟨ks, hks⟩ : ∃ ks, Hid (ks = (uv nS).length + nS) := ⟨_, rfl⟩
      have uS := uv_len nS
      have lks : ks ≤ 3 + nS := by have := hks.out; omega
      go_wp2_with fail
      refine (keySize_at tS nS nS ks wy hks (by omega)).mono ?_
      rintro e wa ⟨rfl, ba⟩
      have Ba := BX.trans (ba.mono BX.size)
      clear ba
      obtain ⟨kl, hkl⟩ : ∃ kl, Hid (kl = (uv nL).length + nL) := ⟨_, rfl⟩
      have uL := uv_len nL
      have lkl : kl ≤ 3 + nL := by have := hkl.out; omega
      go_wp2_with fail
      refine (keySize_at tL nL nL kl wa hkl (by omega)).mono ?_
      rintro e wc ⟨rfl, ba⟩
      have Bc := Ba.trans (ba.mono Ba.size)
      clear ba
      go_wp2_with fail
      go_ret
      refine ⟨ret_true ?_, Bc⟩
      have e2 : (uv S.length ++ S).length = (uv nS).length + nS := by rw [List.length_append, lS.out]
      have y1 := ZX.h1
      have y2 := ZX.h2
      have y3 := ZX.h3
      have y5 := ZX.h5
      have y6 := hks.out
      have e4 : (uv L.length ++ L).length = (uv nL).length + nL := by rw [List.length_append, lL.out]
      have y8 := ZX.hL rfl
      have y9 := hkl.out
      rw [beq_iff_eq]
      omega
  · go_wp2_with fail
    refine (readKey_at g N cap p3 p4 nE E w8 lE (Z8.hE rfl) (by omega) (Nat.le_of_lt Z8.i4) hNc top (Z8.f3 rfl)).mono ?_
    rintro e w9 ⟨s9, c9, rfl, b9, rfl⟩
    go_wp2_with fail
    refine (eq_any s9 tE c9 nE nE E w8 b9 kE8 lE (by omega)).mono ?_
    rintro e w9' ⟨rfl, q9, rfl⟩
    have Z9 := Z8.drewN q9
    have kL9 := kL8.drewN q9
    have BW9 : Below w.heap.size w (w8.drewN q9) := below_drewN' BW8 q9
    generalize w8.drewN q9 = w9 at *
    clear Z8 kE8 kL8 BW8 b9
    go_wp2_with fail
    refine (readFlag_at g N cap p4 p5 more w9 Z9.h5 Z9.i4 top Z9.f4).mono ?_
    rintro e wx ⟨rfl, rfl⟩
    cases more
    · have hN := Z9.hL' rfl
      subst hN
      obtain ⟨ks, hks⟩ : ∃ ks, Hid (ks = (uv nS).length + nS) := ⟨_, rfl⟩
      have uS := uv_len nS
      have lks : ks ≤ 3 + nS := by have := hks.out; omega
      go_wp2_with fail
      refine (keySize_at tS nS nS ks w9 hks (by omega)).mono ?_
      rintro e wa ⟨rfl, ba⟩
      have Ba := BW9.trans (ba.mono BW9.size)
      clear ba
      obtain ⟨ke, hke⟩ : ∃ ke, Hid (ke = (uv nE).length + nE) := ⟨_, rfl⟩
      have uE := uv_len nE
      have lke : ke ≤ 3 + nE := by have := hke.out; omega
      go_wp2_with fail
      refine (keySize_at tE nE nE ke wa hke (by omega)).mono ?_
      rintro e wb ⟨rfl, ba⟩
      have Bb := Ba.trans (ba.mono Ba.size)
      clear ba
      go_wp2_with fail
      go_ret
      refine ⟨ret_true ?_, Bb⟩
      have e2 : (uv S.length ++ S).length = (uv nS).length + nS := by rw [List.length_append, lS.out]
      have y1 := Z9.h1
      have y2 := Z9.h2
      have y3 := Z9.h3
      have y5 := Z9.h5
      have y6 := hks.out
      have e3 : (uv E.length ++ E).length = (uv nE).length + nE := by rw [List.length_append, lE.out]
      have y4 := Z9.hE rfl
      have y7 := hke.out
      rw [beq_iff_eq]
      omega
    · go_wp2_with fail
      refine (readKey_at g N cap p5 N nL L w9 lL (Z9.hL rfl) (by omega) (Nat.le_refl _) hNc top (Z9.f5 rfl)).mono ?_
      rintro e wx ⟨sx, cx, rfl, bx, rfl⟩
      go_wp2_with fail
      refine (eq_any sx tL cx nL nL L w9 bx kL9 lL (by omega)).mono ?_
      rintro e wy' ⟨rfl, qx, rfl⟩
      have ZX := Z9.drewN qx
      have BX : Below w.heap.size w (w9.drewN qx) := below_drewN' BW9 qx
      generalize w9.drewN qx = wy at *
      clear Z9 kL9 BW9 bx
      obtain ⟨ks, hks⟩ : ∃ ks, Hid (ks = (uv nS).length + nS) := ⟨_, rfl⟩
      have uS := uv_len nS
      have lks : ks ≤ 3 + nS := by have := hks.out; omega
      go_wp2_with fail
      refine (keySize_at tS nS nS ks wy hks (by omega)).mono ?_
      rintro e wa ⟨rfl, ba⟩
      have Ba := BX.trans (ba.mono BX.size)
      clear ba
      obtain ⟨ke, hke⟩ : ∃ ke, Hid (ke = (uv nE).length + nE) := ⟨_, rfl⟩
      have uE := uv_len nE
      have lke : ke ≤ 3 + nE := by have := hke.out; omega
      go_wp2_with fail
      refine (keySize_at tE nE nE ke wa hke (by omega)).mono ?_
      rintro e wb ⟨rfl, ba⟩
      have Bb := Ba.trans (ba.mono Ba.size)
      clear ba
      obtain ⟨kl, hkl⟩ : ∃ kl, Hid (kl = (uv nL).length + nL) := ⟨_, rfl⟩
      have uL := uv_len nL
      have lkl : kl ≤ 3 + nL := by have := hkl.out; omega
      go_wp2_with fail
      refine (keySize_at tL nL nL kl wb hkl (by omega)).mono ?_
      rintro e wc ⟨rfl, ba⟩
      have Bc := Bb.trans (ba.mono Bb.size)
      clear ba
      go_wp2_with fail
      go_ret
      refine ⟨ret_true ?_, Bc⟩
      have e2 : (uv S.length ++ S).length = (uv nS).length + nS := by rw [List.length_append, lS.out]
      have y1 := ZX.h1
      have y2 := ZX.h2
      have y3 := ZX.h3
      have y5 := ZX.h5
      have y6 := hks.out
      have e3 : (uv E.length ++ E).length = (uv nE).length + nE := by rw [List.length_append, lE.out]
      have y4 := ZX.hE rfl
      have y7 := hke.out
      have e4 : (uv L.length ++ L).length = (uv nL).length + nL := by rw [List.length_append, lL.out]
      have y8 := ZX.hL rfl
      have y9 := hkl.out
      rw [beq_iff_eq]
      omega
end Go.Proofs.Qxb6003417a
