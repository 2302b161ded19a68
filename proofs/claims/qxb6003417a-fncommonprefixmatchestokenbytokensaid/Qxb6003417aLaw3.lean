import Derived.Test.Qxb6003417aCp
namespace Go.Proofs.Qxb6003417a
open Go.ChangeShapes Go.WideShapes Go.ChangeAt Go.RowKit
set_option linter.unusedVariables false
set_option linter.unusedSimpArgs false

theorem zzcp_any (sa sb : Option Addr) (na nb ca cb an bn : Nat) (fa fb : Nat → Int) (w : World) (ha : ByteSl w sa na fa) (hb : ByteSl w sb nb fb) (hna : na ≤ 1048576) (hnb : nb ≤ 1048576) (han : an ≤ 2 * na) (hbn : bn ≤ 2 * nb) :
    Calls Try.prog 13 #[.slice sa na ca, .int .i64 an, .slice sb nb cb, .int .i64 bn] w fun e w' => ∃ t : Nat, e = .returned (.int .i64 t) ∧ IsCp fa fb (min an bn) t ∧ Below w.heap.size w w' := by
  go_enter Try.func13, Try.ntmps13
  go_wp2_with (go_at_call 40; refine (cp_any sa sb na nb ca cb an bn fa fb _ ha hb hna hnb han hbn).mono ?_; rintro e w' ⟨t, rfl, H, hb'⟩)
  go_ret
  exact ⟨t, rfl, H, hb'⟩

/-- zzClone: a slice of the same bytes in new memory. -/
theorem clone_any (s : Option Addr) (n c : Nat) (f : Nat → Int) (w : World) (hn : n ≤ 1048576) (h : ByteSl w s n f) :
    Calls Try.prog 11 #[.slice s n c] w fun e w' => ∃ s', e = .returned (.slice s' n n) ∧ ByteSl w' s' n f ∧ Below w.heap.size w w' := by
  cases s with
  | none =>
    have h0 : n = 0 := by
      rcases Nat.eq_zero_or_pos n with h0 | h0
      · exact h0
      · obtain ⟨x, hx⟩ := h.addr h0
        cases hx
    subst h0
    refine (clone_nil 0 c w).mono ?_
    rintro e w' ⟨rfl, rfl⟩
    exact ⟨none, rfl, h, Below.refl _ _⟩
  | some x =>
    refine (clone_some x n c ((List.range n).map (fun j => Value.int .u8 (f j))) w hn (by simp) ?_ ?_).mono ?_
    · intro j v hv
      simp only [List.getElem?_map] at hv
      obtain ⟨j', hj', rfl⟩ := Option.map_eq_some_iff.1 hv
      obtain ⟨hlt, rfl⟩ := List.getElem?_eq_some_iff.1 hj'
      simp at hlt
      simpa using h.cell x rfl j hlt
    · intro v hv
      obtain ⟨j, _, rfl⟩ := List.mem_map.1 hv
      rfl
    · rintro e w' ⟨rfl, rfl⟩
      refine ⟨_, rfl, ⟨fun _ => ⟨_, rfl⟩, ?_, h.rng⟩, (Below.refl _ _).alloc (Nat.le_refl _) _⟩
      intro y hy j hj
      obtain rfl := Option.some.inj hy
      rw [Addr.add_lit, World.cell?_alloc_at _ _ _ _ rfl]
      simp [hj]

theorem cp_stop {fa fb : Nat → Int} {m k : Nat} (hk : k ≤ m) (h : ∀ j, j < k → tokF fa j = tokF fb j) (ht : (tokB (fa (k / 2)) k == tokB (fb (k / 2)) k) = false) : IsCp fa fb m k := by
  have h' : ¬ tokB (fa (k / 2)) k = tokB (fb (k / 2)) k := by simpa using ht
  exact ⟨hk, h, fun _ e => h' e⟩

set_option maxRecDepth 100000 in
set_option maxHeartbeats 1000000 in
theorem law3_main (sa sb : Option Addr) (na nb ca cb an bn : Nat) (fa fb : Nat → Int) (w : World) (ha : ByteSl w sa na fa) (hb : ByteSl w sb nb fb) (hs : na + nb ≤ 1048576) (han : an ≤ 2 * na) (hbn : bn ≤ 2 * nb) :
    Calls Try.prog 3 #[.slice sa na ca, .int .i64 an, .slice sb nb cb, .int .i64 bn] w fun e w' => e = .returned (.bool true) ∧ Below w.heap.size w w' := by
  go_enter Try.func3, Try.ntmps3
  go_wp2_with (first | (go_at_call 10; go_in))
  refine (clone_any sa na ca fa w (by omega) ha).mono ?_
  rintro e w1 ⟨sa', rfl, ha1, hb1⟩
  have hbw1 := hb.later hb1
  clear ha hb
  go_wp2_with fail
  refine (clone_any sb nb cb fb w1 (by omega) hbw1).mono ?_
  rintro e w2 ⟨sb', rfl, hb2, hbel2⟩
  have ha2 := ha1.later hbel2
  have hbel : Below w.heap.size w w2 := hb1.trans (hbel2.mono hb1.size)
  clear ha1 hbw1 hb1 hbel2
  obtain ⟨m, hm⟩ : ∃ m, m = min an bn := ⟨_, rfl⟩
  have hmin : (bn < an ∧ Hid (m = bn)) ∨ (an ≤ bn ∧ Hid (m = an)) := by
    rcases Nat.lt_or_ge bn an with h | h
    · exact .inl ⟨h, show m = bn by omega⟩
    · exact .inr ⟨h, show m = an by omega⟩
  have Hm : Hid (m = min an bn) := hm
  have hm1 : m ≤ an := by omega
  have hm2 : m ≤ bn := by omega
  clear hm
  rcases hmin with ⟨h1, h2⟩ | ⟨h1, h2⟩
  · go_wp2_with fail
    go_loopg [10] m (fun g i wr => ∃ k : Nat, k + g = m ∧ i = .int .i64 k ∧ (∀ j, j < k → tokF fa j = tokF fb j) ∧ w2 = wr)
    case atStart => exact ⟨0, by omega, rfl, fun j hj => by omega, rfl⟩
    case round =>
      obtain ⟨k, hk, rfl, heq, rfl⟩ := hrel
      have hk' : k ≤ m := by omega
      have Hk : Hid (k + gk = m) := hk
      have Heq : Hid (∀ j, j < k → tokF fa j = tokF fb j) := heq
      clear hk heq
      by_cases hlt : k < m
      · have hlt2 : k < bn := by have := h2.out; omega
        obtain ⟨x, rfl⟩ := ha2.addr (by omega)
        obtain ⟨y, rfl⟩ := hb2.addr (by omega)
        have hca := ha2.cell x rfl (k / 2) (by omega)
        have hcb := hb2.cell y rfl (k / 2) (by omega)
        have hr := ha2.rng (k / 2)
        have hs' := hb2.rng (k / 2)
        cases ht : (tokB (fa (k / 2)) k == tokB (fb (k / 2)) k)
        · have C : IsCp fa fb m k := cp_stop (by omega) Heq.out ht
          go_wp2_with (first | (go_at_call_of 12 (Value.slice (some x) na na); refine (tok_any x na na k (fa (k / 2)) _ (by omega) (by omega) hr.1 hr.2 hca).mono ?_; rintro e w' ⟨rfl, rfl⟩) | (go_at_call_of 12 (Value.slice (some y) nb nb); refine (tok_any y nb nb k (fb (k / 2)) _ (by omega) (by omega) hs'.1 hs'.2 hcb).mono ?_; rintro e w' ⟨rfl, rfl⟩))
          refine (zzcp_any (some x) (some y) na nb na nb an bn fa fb w2 ha2 hb2 (by omega) (by omega) han hbn).mono ?_
          rintro e w3 ⟨t, rfl, T, hb3⟩
          obtain rfl : t = k := T.unique (Hm.out ▸ C)
          have ha3 := ha2.later hb3
          have hb3' := hb2.later hb3
          go_wp2_with fail
          refine (zzcp_any (some y) (some x) nb na nb na bn an fb fa w3 hb3' ha3 (by omega) (by omega) hbn han).mono ?_
          rintro e w4 ⟨t', rfl, T', hb4⟩
          obtain rfl : t' = t := T'.unique (by have := C.symm; rw [Hm.out, Nat.min_comm] at this; exact this)
          go_wp2
          go_ret
          exact ⟨by simp, hbel.trans ((hb3.mono hbel.size).trans (hb4.mono (Nat.le_trans hbel.size hb3.size)))⟩
        · go_wp2_with (first | (go_at_call_of 12 (Value.slice (some x) na na); refine (tok_any x na na k (fa (k / 2)) _ (by omega) (by omega) hr.1 hr.2 hca).mono ?_; rintro e w' ⟨rfl, rfl⟩) | (go_at_call_of 12 (Value.slice (some y) nb nb); refine (tok_any y nb nb k (fb (k / 2)) _ (by omega) (by omega) hs'.1 hs'.2 hcb).mono ?_; rintro e w' ⟨rfl, rfl⟩))
          go_roundg (gk - 1)
          case rel =>
            have := Hk.out
            refine ⟨k + 1, by omega, by go_num, fun j hj => ?_, rfl⟩
            by_cases e : j = k
            · subst e; unfold tokF; simpa using ht
            · exact Heq.out j (by omega)
          case measure => have := Hk.out; omega
      · have C : IsCp fa fb m k := ⟨by omega, Heq.out, fun h => (hlt h).elim⟩
        have hge : (bn : Int) ≤ (k : Int) := by have := h2.out; omega
        go_wp2_with fail
        refine (zzcp_any sa' sb' na nb na nb an bn fa fb w2 ha2 hb2 (by omega) (by omega) han hbn).mono ?_
        rintro e w3 ⟨t, rfl, T, hb3⟩
        obtain rfl : t = k := T.unique (Hm.out ▸ C)
        have ha3 := ha2.later hb3
        have hb3' := hb2.later hb3
        go_wp2_with fail
        refine (zzcp_any sb' sa' nb na nb na bn an fb fa w3 hb3' ha3 (by omega) (by omega) hbn han).mono ?_
        rintro e w4 ⟨t', rfl, T', hb4⟩
        obtain rfl : t' = t := T'.unique (by have := C.symm; rw [Hm.out, Nat.min_comm] at this; exact this)
        go_wp2
        go_ret
        exact ⟨by simp, hbel.trans ((hb3.mono hbel.size).trans (hb4.mono (Nat.le_trans hbel.size hb3.size)))⟩
  · have hd0 : decide (bn < an) = false := by simp; omega
    go_wp2_with fail
    go_loopg [10] m (fun g i wr => ∃ k : Nat, k + g = m ∧ i = .int .i64 k ∧ (∀ j, j < k → tokF fa j = tokF fb j) ∧ w2 = wr)
    case atStart => exact ⟨0, by omega, rfl, fun j hj => by omega, rfl⟩
    case round =>
      obtain ⟨k, hk, rfl, heq, rfl⟩ := hrel
      have hk' : k ≤ m := by omega
      have Hk : Hid (k + gk = m) := hk
      have Heq : Hid (∀ j, j < k → tokF fa j = tokF fb j) := heq
      clear hk heq
      by_cases hlt : k < m
      · have hlt2 : k < an := by have := h2.out; omega
        obtain ⟨x, rfl⟩ := ha2.addr (by omega)
        obtain ⟨y, rfl⟩ := hb2.addr (by omega)
        have hca := ha2.cell x rfl (k / 2) (by omega)
        have hcb := hb2.cell y rfl (k / 2) (by omega)
        have hr := ha2.rng (k / 2)
        have hs' := hb2.rng (k / 2)
        cases ht : (tokB (fa (k / 2)) k == tokB (fb (k / 2)) k)
        · have C : IsCp fa fb m k := cp_stop (by omega) Heq.out ht
          go_wp2_with (first | (go_at_call_of 12 (Value.slice (some x) na na); refine (tok_any x na na k (fa (k / 2)) _ (by omega) (by omega) hr.1 hr.2 hca).mono ?_; rintro e w' ⟨rfl, rfl⟩) | (go_at_call_of 12 (Value.slice (some y) nb nb); refine (tok_any y nb nb k (fb (k / 2)) _ (by omega) (by omega) hs'.1 hs'.2 hcb).mono ?_; rintro e w' ⟨rfl, rfl⟩))
          refine (zzcp_any (some x) (some y) na nb na nb an bn fa fb w2 ha2 hb2 (by omega) (by omega) han hbn).mono ?_
          rintro e w3 ⟨t, rfl, T, hb3⟩
          obtain rfl : t = k := T.unique (Hm.out ▸ C)
          have ha3 := ha2.later hb3
          have hb3' := hb2.later hb3
          go_wp2_with fail
          refine (zzcp_any (some y) (some x) nb na nb na bn an fb fa w3 hb3' ha3 (by omega) (by omega) hbn han).mono ?_
          rintro e w4 ⟨t', rfl, T', hb4⟩
          obtain rfl : t' = t := T'.unique (by have := C.symm; rw [Hm.out, Nat.min_comm] at this; exact this)
          go_wp2
          go_ret
          exact ⟨by simp, hbel.trans ((hb3.mono hbel.size).trans (hb4.mono (Nat.le_trans hbel.size hb3.size)))⟩
        · go_wp2_with (first | (go_at_call_of 12 (Value.slice (some x) na na); refine (tok_any x na na k (fa (k / 2)) _ (by omega) (by omega) hr.1 hr.2 hca).mono ?_; rintro e w' ⟨rfl, rfl⟩) | (go_at_call_of 12 (Value.slice (some y) nb nb); refine (tok_any y nb nb k (fb (k / 2)) _ (by omega) (by omega) hs'.1 hs'.2 hcb).mono ?_; rintro e w' ⟨rfl, rfl⟩))
          go_roundg (gk - 1)
          case rel =>
            have := Hk.out
            refine ⟨k + 1, by omega, by go_num, fun j hj => ?_, rfl⟩
            by_cases e : j = k
            · subst e; unfold tokF; simpa using ht
            · exact Heq.out j (by omega)
          case measure => have := Hk.out; omega
      · have C : IsCp fa fb m k := ⟨by omega, Heq.out, fun h => (hlt h).elim⟩
        have hge : (an : Int) ≤ (k : Int) := by have := h2.out; omega
        go_wp2_with fail
        refine (zzcp_any sa' sb' na nb na nb an bn fa fb w2 ha2 hb2 (by omega) (by omega) han hbn).mono ?_
        rintro e w3 ⟨t, rfl, T, hb3⟩
        obtain rfl : t = k := T.unique (Hm.out ▸ C)
        have ha3 := ha2.later hb3
        have hb3' := hb2.later hb3
        go_wp2_with fail
        refine (zzcp_any sb' sa' nb na nb na bn an fb fa w3 hb3' ha3 (by omega) (by omega) hbn han).mono ?_
        rintro e w4 ⟨t', rfl, T', hb4⟩
        obtain rfl : t' = t := T'.unique (by have := C.symm; rw [Hm.out, Nat.min_comm] at this; exact this)
        go_wp2
        go_ret
        exact ⟨by simp, hbel.trans ((hb3.mono hbel.size).trans (hb4.mono (Nat.le_trans hbel.size hb3.size)))⟩
end Go.Proofs.Qxb6003417a
