import Derived.Test.Qxb6003417aTok
import Derived.Deep.RegionHeld3
namespace Go.Proofs.Qxb6003417a
open Go.ChangeShapes Go.WideShapes Go.ChangeAt Go.RowKit
set_option linter.unusedVariables false
set_option linter.unusedSimpArgs false

/-- A slice of n bytes, f 0, f 1, .. . -/
structure ByteSl (w : World) (s : Option Addr) (n : Nat) (f : Nat → Int) : Prop where
  addr : 0 < n → ∃ x, s = some x
  cell : ∀ x, s = some x → ∀ j, j < n → w.cell? (x.add j) = some (.int .u8 (f j))
  rng : ∀ j, 0 ≤ f j ∧ f j ≤ 255

def tokF (f : Nat → Int) (i : Nat) : Int := tokB (f (i / 2)) i

/-- t is the length of the longest run of equal tokens among the first n. -/
structure IsCp (fa fb : Nat → Int) (n t : Nat) : Prop where
  le : t ≤ n
  eq : ∀ i, i < t → tokF fa i = tokF fb i
  ne : t < n → tokF fa t ≠ tokF fb t

theorem IsCp.unique {fa fb : Nat → Int} {n s t : Nat} (hs : IsCp fa fb n s) (ht : IsCp fa fb n t) : s = t := by
  rcases Nat.lt_trichotomy s t with h | h | h
  · exact (hs.ne (by have := ht.le; omega) (ht.eq s h)).elim
  · exact h
  · exact (ht.ne (by have := hs.le; omega) (hs.eq t h)).elim

theorem IsCp.symm {fa fb : Nat → Int} {n t : Nat} (h : IsCp fa fb n t) : IsCp fb fa n t :=
  ⟨h.le, fun i hi => (h.eq i hi).symm, fun hn e => h.ne hn e.symm⟩

/-- All tokens of equal bytes are equal. -/
theorem tok_bytes {fa fb : Nat → Int} {k : Nat} (h : ∀ j, j < k → fa j = fb j) (i : Nat) (hi : i < 2 * k) : tokF fa i = tokF fb i := by
  unfold tokF; rw [h (i / 2) (by omega)]

theorem ByteSl.later {w w' : World} {s : Option Addr} {n : Nat} {f : Nat → Int} (h : ByteSl w s n f) (hb : Below w.heap.size w w') : ByteSl w' s n f :=
  ⟨h.addr, fun x hx j hj => by have := h.cell x hx j hj; rw [hb.cell (World.block_lt_of_cell? _ _ this)]; exact this, h.rng⟩

/-- The two boxed paths; old memory as it was. -/
structure Boxes (w wr : World) (va vb : Value) (an bn : Nat) : Prop where
  a0 : wr.cell? ⟨w.heap.size, 0, none⟩ = some va
  a1 : wr.cell? ⟨w.heap.size, 1, none⟩ = some (.int .i64 an)
  b0 : wr.cell? ⟨w.heap.size + 1, 0, none⟩ = some vb
  b1 : wr.cell? ⟨w.heap.size + 1, 1, none⟩ = some (.int .i64 bn)
  size : w.heap.size + 2 ≤ wr.heap.size
  below : Below w.heap.size w wr

theorem boxes_start (w : World) (va vb : Value) (an bn : Nat) : Boxes w ((w.alloc (.cells #[va, .int .i64 an] 70)).alloc (.cells #[vb, .int .i64 bn] 70)) va vb an bn := by
  refine ⟨by simp, by simp, by simp, by simp, by simp, ((Below.refl _ _).alloc (Nat.le_refl _) _).alloc (by simp) _⟩

theorem Boxes.drewN {w wr : World} {va vb : Value} {an bn : Nat} (h : Boxes w wr va vb an bn) (q : Nat) : Boxes w (wr.drewN q) va vb an bn := by
  exact ⟨h.a0, h.a1, h.b0, h.b1, h.size, ⟨h.below.os, h.below.tape, h.below.output, h.below.size, h.below.block⟩⟩

theorem at_two (x : Addr) (n c p k : Nat) (b : Int) (w : World) (hn : k < n) (hm : n ≤ 1048576) (h0 : 0 ≤ b) (h1 : b ≤ 255) (hc : w.cell? (x.add k) = some (.int .u8 b)) :
    Calls Try.prog 50 #[.agg #[.slice (some x) n c, .int .i64 p], .int .i64 (2 * (k : Int))] w fun e w' => e = .returned (.int .u8 (tokB b (2 * k))) ∧ w' = w.alloc (.cells #[.slice (some x) n c, .int .i64 p] 70) := by
  have e : (2 * (k : Int)) = ((2 * k : Nat) : Int) := by omega
  have d : (2 * k) / 2 = k := by omega
  rw [e]
  exact at_any x n c p (2 * k) b w (by omega) hm h0 h1 (by rw [d]; exact hc)

/-- A world in which all that was there is as it was. -/
def Later (w : World) : Type := { w' : World // Below w.heap.size w w' }

theorem Later.cell {w : World} {a : Addr} {v : Value} (h : w.cell? a = some v) (x : Later w) : x.1.cell? a = some v := by
  rw [x.2.cell (World.block_lt_of_cell? _ _ h)]; exact h

/-- A call in a world of the class: its contract leaves one. -/
theorem Calls.later {P : Program} {f : FuncId} {args : Array Value} {w : World} {v : Value} (x : Later w)
    (h : Calls P f args x.1 fun e w' => e = .returned v ∧ Below w.heap.size w w') : Calls P f args x.1 fun e w'' => e = .returned v ∧ ∃ y : Later w, w'' = y.1 :=
  h.mono fun _ w' ⟨he, hb⟩ => ⟨he, ⟨w', hb⟩, rfl⟩

theorem wp_region_later {P : Program} {id : Nat} {Q : Exit → Act → World → Prop} {a : Act} {w : World} {l : List Oper} (hm : P.follows .mixedOrders = true) (hB : Region.lexB .any l.toArray = true)
    (h : wpQuiet P l.toArray (fun w' => ∃ x : Later w, w' = x.1) (fun a' => ∀ w', (∃ x : Later w, w' = x.1) → Q .normal a' w') l a) : (Code.region id l.toArray true).wp P Q a w :=
  wp_region_quiet (C := fun w' => ∃ x : Later w, w' = x.1) hm hB ⟨⟨_, (Below.refl _ w).drew⟩, rfl⟩ (by simpa using h)

theorem at_later (x : Addr) (n c p k : Nat) (b : Int) (W : World) (hn : k < n) (hm : n ≤ 1048576) (hr : 0 ≤ b ∧ b ≤ 255) (hc : W.cell? (x.add k) = some (.int .u8 b)) (y : Later W) :
    Calls Try.prog 50 #[.agg #[.slice (some x) n c, .int .i64 p], .int .i64 (2 * (k : Int))] y.1 fun e w'' => e = .returned (.int .u8 (tokB b (2 * k))) ∧ ∃ z : Later W, w'' = z.1 := by
  refine Calls.later y ((at_two x n c p k b y.1 hn hm hr.1 hr.2 (Later.cell hc y)).mono ?_)
  rintro e w' ⟨rfl, rfl⟩
  exact ⟨rfl, y.2.alloc y.2.size _⟩

theorem tokF_even (f : Nat → Int) (k : Nat) : tokF f (2 * k) = tokB (f k) (2 * k) := by
  unfold tokF; rw [show 2 * k / 2 = k by omega]

theorem cp_eq {fa fb : Nat → Int} {n k : Nat} (h : ∀ j, j < k → fa j = fb j) (hn : 2 * k < n) (ht : (tokB (fa k) (2 * k) == tokB (fb k) (2 * k)) = true) (hd : k < n / 2 → fa k ≠ fb k) (hr : 0 ≤ fa k ∧ fa k ≤ 255) (hs : 0 ≤ fb k ∧ fb k ≤ 255) : IsCp fa fb n (2 * k + 1) := by
  have ht' : tokB (fa k) (2 * k) = tokB (fb k) (2 * k) := by simpa using ht
  refine ⟨by omega, ?_, ?_⟩
  · intro i hi
    by_cases e : i = 2 * k
    · subst e; rw [tokF_even, tokF_even]; exact ht'
    · exact tok_bytes h i (by omega)
  · intro hl he
    have hd' := hd (by omega)
    unfold tokF tokB at he
    unfold tokB at ht'
    rw [if_pos (by omega), if_pos (by omega)] at ht'
    rw [show (2 * k + 1) / 2 = k by omega, if_neg (by omega), if_neg (by omega)] at he
    omega

theorem cp_ne {fa fb : Nat → Int} {n k : Nat} (h : ∀ j, j < k → fa j = fb j) (hn : 2 * k < n) (ht : (tokB (fa k) (2 * k) == tokB (fb k) (2 * k)) = false) : IsCp fa fb n (2 * k) := by
  have ht' : ¬ tokB (fa k) (2 * k) = tokB (fb k) (2 * k) := by simpa using ht
  refine ⟨by omega, fun i hi => tok_bytes h i hi, fun _ he => ht' ?_⟩
  rw [tokF_even, tokF_even] at he
  exact he

theorem cp_end {fa fb : Nat → Int} {n k : Nat} (h : ∀ j, j < k → fa j = fb j) (hn : 2 * k = n) : IsCp fa fb n (2 * k) :=
  ⟨by omega, fun i hi => tok_bytes h i hi, fun hl => by omega⟩

set_option maxRecDepth 100000 in
set_option maxHeartbeats 1000000 in
theorem cp_any (sa sb : Option Addr) (na nb ca cb an bn : Nat) (fa fb : Nat → Int) (w : World) (ha : ByteSl w sa na fa) (hb : ByteSl w sb nb fb) (hna : na ≤ 1048576) (hnb : nb ≤ 1048576) (han : an ≤ 2 * na) (hbn : bn ≤ 2 * nb) :
    Calls Try.prog 40 #[.agg #[.slice sa na ca, .int .i64 an], .agg #[.slice sb nb cb, .int .i64 bn]] w fun e w' => ∃ t : Nat, e = .returned (.int .i64 t) ∧ IsCp fa fb (min an bn) t ∧ Below w.heap.size w w' := by
  obtain ⟨n, hn⟩ : ∃ n, n = min an bn := ⟨_, rfl⟩
  have hmin : ∀ (w : World) (ts : Array TypeId) (t : TypeId), (Builtin.min_ ts t #[.int .i64 an, .int .i64 bn]).run Try.prog w = .ok (.int .i64 n) w := by
    intro w ts t
    rw [run_min_int2]
    congr 2
    split <;> omega
  rw [← hn]
  have h1 : n ≤ an := by omega
  have h2 : n ≤ bn := by omega
  clear hn
  go_enter Try.func40, Try.ntmps40
  go_wp2
  go_loopg [6] (n / 2) (fun g i wr => ∃ k : Nat, k + g = n / 2 ∧ i = .int .i64 k ∧ (∀ j, j < k → fa j = fb j) ∧ Boxes w wr (.slice sa na ca) (.slice sb nb cb) an bn)
  case atStart => exact ⟨0, by omega, rfl, fun j hj => by omega, boxes_start _ _ _ _ _⟩
  case round =>
    obtain ⟨k, hk, rfl, heq, B⟩ := hrel
    have hk' : k ≤ n / 2 := by omega
    have Hk : Hid (k + gk = n / 2) := hk
    have Heq : Hid (∀ j, j < k → fa j = fb j) := heq
    clear hk heq
    have hA := B.a0
    have hB := B.b0
    by_cases hlt : k < n / 2
    · obtain ⟨x, rfl⟩ := ha.addr (by omega)
      obtain ⟨y, rfl⟩ := hb.addr (by omega)
      have hca := (ha.later B.below).cell x rfl k (by omega)
      have hcb := (hb.later B.below).cell y rfl k (by omega)
      have hg : (k : Int) < (n : Int) / 2 := by omega
      by_cases he : fa k = fb k
      · have hb' : (fa k == fb k) = true := by simpa using he
        have He : Hid (fa k = fb k) := he
        clear he
        go_wp2
        go_quiet (fail)
        go_wp2
        go_roundg (gk - 1)
        case rel =>
          have := Hk.out
          refine ⟨k + 1, by omega, by go_num, fun j hj => ?_, B.drewN nq⟩
          by_cases e : j = k
          · subst e; exact He.out
          · exact Heq.out j (by omega)
        case measure => have := Hk.out; omega
      · have hb' : (fa k == fb k) = false := by simpa using he
        have hr := ha.rng k
        have hs := hb.rng k
        go_wp2
        go_quiet (fail)
        go_wp2
        have B' := B.drewN nq
        have hA0 := B'.a0
        have hA1 := B'.a1
        have hB0 := B'.b0
        have hB1 := B'.b1
        have hca' := (ha.later B'.below).cell x rfl k (by omega)
        have hcb' := (hb.later B'.below).cell y rfl k (by omega)
        generalize wr.drewN nq = w1 at *
        clear B hA hB
        have q0 := fun y : Later w1 => Later.cell hA0 y
        have q1 := fun y : Later w1 => Later.cell hA1 y
        have q2 := fun y : Later w1 => Later.cell hB0 y
        have q3 := fun y : Later w1 => Later.cell hB1 y
        have hd : decide (2 * (k : Int) < (n : Int)) = true := by simp; omega
        have hne : Nonempty (Later w1) := ⟨⟨w1, Below.refl _ _⟩⟩
        cases ht : (tokB (fa k) (2 * k) == tokB (fb k) (2 * k))
        · refine wp_region_later (by kernel_rfl) (by kernel_rfl) ?_
          repeat (first
            | go_big_quiet_step ((first | (go_at_call_of 50 (Value.slice (some x) na ca); exact at_later x na ca an k (fa k) w1 (by omega) hna hr hca' _) | (go_at_call_of 50 (Value.slice (some y) nb cb); exact at_later y nb cb bn k (fb k) w1 (by omega) hnb hs hcb' _))))
          refine wpQuiet_nil ?_
          rintro _ ⟨w2, rfl⟩
          go_wp2
          go_ret
          exact ⟨2 * k, by simp, cp_ne Heq.out (by omega) ht, B'.below.trans (w2.2.mono (by have := B'.size; omega))⟩
        · refine wp_region_later (by kernel_rfl) (by kernel_rfl) ?_
          repeat (first
            | go_big_quiet_step ((first | (go_at_call_of 50 (Value.slice (some x) na ca); exact at_later x na ca an k (fa k) w1 (by omega) hna hr hca' _) | (go_at_call_of 50 (Value.slice (some y) nb cb); exact at_later y nb cb bn k (fb k) w1 (by omega) hnb hs hcb' _))))
          refine wpQuiet_nil ?_
          rintro _ ⟨w2, rfl⟩
          go_wp2
          go_ret
          exact ⟨2 * k + 1, by simp, cp_eq Heq.out (by omega) ht (fun _ => he) hr hs, B'.below.trans (w2.2.mono (by have := B'.size; omega))⟩
    · have hg : decide ((k : Int) < (n : Int) / 2) = false := by simp; omega
      go_wp2
      go_quiet (fail)
      go_wp2
      by_cases hodd : 2 * k < n
      · obtain ⟨x, rfl⟩ := ha.addr (by omega)
        obtain ⟨y, rfl⟩ := hb.addr (by omega)
        have hr := ha.rng k
        have hs := hb.rng k
        have B' := B.drewN nq
        have hA0 := B'.a0
        have hA1 := B'.a1
        have hB0 := B'.b0
        have hB1 := B'.b1
        have hca' := (ha.later B'.below).cell x rfl k (by omega)
        have hcb' := (hb.later B'.below).cell y rfl k (by omega)
        generalize wr.drewN nq = w1 at *
        clear B hA hB
        have q0 := fun y : Later w1 => Later.cell hA0 y
        have q1 := fun y : Later w1 => Later.cell hA1 y
        have q2 := fun y : Later w1 => Later.cell hB0 y
        have q3 := fun y : Later w1 => Later.cell hB1 y
        have hd : decide (2 * (k : Int) < (n : Int)) = true := by simp; omega
        have hne : Nonempty (Later w1) := ⟨⟨w1, Below.refl _ _⟩⟩
        cases ht : (tokB (fa k) (2 * k) == tokB (fb k) (2 * k))
        · refine wp_region_later (by kernel_rfl) (by kernel_rfl) ?_
          repeat (first
            | go_big_quiet_step ((first | (go_at_call_of 50 (Value.slice (some x) na ca); exact at_later x na ca an k (fa k) w1 (by omega) hna hr hca' _) | (go_at_call_of 50 (Value.slice (some y) nb cb); exact at_later y nb cb bn k (fb k) w1 (by omega) hnb hs hcb' _))))
          refine wpQuiet_nil ?_
          rintro _ ⟨w2, rfl⟩
          go_wp2
          go_ret
          exact ⟨2 * k, by simp, cp_ne Heq.out (by omega) ht, B'.below.trans (w2.2.mono (by have := B'.size; omega))⟩
        · refine wp_region_later (by kernel_rfl) (by kernel_rfl) ?_
          repeat (first
            | go_big_quiet_step ((first | (go_at_call_of 50 (Value.slice (some x) na ca); exact at_later x na ca an k (fa k) w1 (by omega) hna hr hca' _) | (go_at_call_of 50 (Value.slice (some y) nb cb); exact at_later y nb cb bn k (fb k) w1 (by omega) hnb hs hcb' _))))
          refine wpQuiet_nil ?_
          rintro _ ⟨w2, rfl⟩
          go_wp2
          go_ret
          exact ⟨2 * k + 1, by simp, cp_eq Heq.out (by omega) ht (fun h => (hlt h).elim) hr hs, B'.below.trans (w2.2.mono (by have := B'.size; omega))⟩
      · have hd : decide (2 * (k : Int) < (n : Int)) = false := by simp; omega
        have B' := B.drewN nq
        generalize wr.drewN nq = w1 at *
        go_quiet (fail)
        go_wp2
        go_ret
        exact ⟨2 * k, by simp, cp_end Heq.out (by omega), (B'.drewN _).below⟩
end Go.Proofs.Qxb6003417a
