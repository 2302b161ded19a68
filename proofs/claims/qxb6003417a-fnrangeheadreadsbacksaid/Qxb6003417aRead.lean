/- The reader's functions: zzEq, zzReadFlag, zzUvarint, zzReadKey. -/
import Derived.Test.Qxb6003417aHead
import Derived.Deep.QuietTactic
import Derived.BigQuiet
namespace Go.Proofs.Qxb6003417a
open Go.ChangeShapes Go.WideShapes Go.ChangeAt Go.RowKit
set_option linter.unusedVariables false
set_option linter.unusedSimpArgs false

theorem uv_pos (x : Nat) : 0 < (uv x).length := by
  unfold uv
  split
  · simp
  · split <;> simp

theorem BL.at {w : World} {s : Option Addr} {L : List Int} (h : BL w s L) {k : Nat} (hk : k < L.length) : ∃ x, s = some x ∧ w.cell? (x.add k) = some (.int .u8 (L.getD k 0)) := by
  cases s with
  | none => rw [h.none rfl] at hk; simp at hk
  | some x => exact ⟨x, rfl, h.cell x rfl k _ (by simp [bcells, hk])⟩

theorem BL.drewN {w : World} {s : Option Addr} {L : List Int} (h : BL w s L) (q : Nat) : BL (w.drewN q) s L := ⟨h.none, h.cell⟩

theorem below_drewN' {B : Nat} {w w' : World} (h : Below B w w') (q : Nat) : Below B w (w'.drewN q) := ⟨h.os, h.tape, h.output, h.size, h.block⟩

set_option maxRecDepth 100000 in
set_option maxHeartbeats 1000000 in
theorem eq_any (s1 s2 : Option Addr) (c1 c2 n : Nat) (L : List Int) (w : World) (h1 : BL w s1 L) (h2 : BL w s2 L) (hn : Hid (L.length = n)) (hm : n ≤ 2097152) :
    Calls Try.prog 23 #[.slice s1 n c1, .slice s2 n c2] w fun e w' => e = .returned (.bool true) ∧ ∃ q, w' = w.drewN q := by
  go_enter Try.func23, Try.ntmps23
  go_wp2
  go_loopg [5] n (fun g i wr => ∃ k : Nat, k + g = n ∧ i = .int .i64 k ∧ ∃ q, wr = w.drewN q)
  case atStart => exact ⟨0, by omega, rfl, 0, rfl⟩
  case round =>
    obtain ⟨k, hk, rfl, q, rfl⟩ := hrel
    have hk' : k ≤ n := by omega
    have Hk : Hid (k + gk = n) := hk
    clear hk
    by_cases hlt : k < n
    · obtain ⟨x, rfl, hx⟩ := h1.at (k := k) (by have := hn.out; omega)
      obtain ⟨y, rfl, hy⟩ := h2.at (k := k) (by have := hn.out; omega)
      generalize L.getD k 0 = b at hx hy
      have hd : decide ((k : Int) < (n : Int)) = true := by simp; omega
      go_wp2
      go_quiet (fail)
      go_wp2
      go_roundg (gk - 1)
      case rel =>
        have := Hk.out
        exact ⟨k + 1, by omega, by go_num, q + nq, rfl⟩
      case measure => have := Hk.out; omega
    · go_wp2
      go_ret
      exact ⟨rfl, q, rfl⟩

set_option maxHeartbeats 1000000 in
theorem readFlag_any (g n c pos : Nat) (f : Bool) (w : World) (hp : pos < n) (hm : n ≤ 2097152) (hc : w.cell? ⟨g, pos, none⟩ = some (.int .u8 (flagB f))) :
    Calls Try.prog 24 #[.slice (some ⟨g, 0, none⟩) n c, .int .i64 pos] w fun e w' => e = .returned (.tuple #[.bool f, .int .i64 (pos + 1 : Nat)]) ∧ w = w' := by
  cases f
  · have hc' : w.cell? ⟨g, pos, none⟩ = some (.int .u8 0) := hc
    clear hc
    go_enter Try.func24, Try.ntmps24
    go_wp2
    go_ret2
    exact ⟨by simp, rfl⟩
  · have hc' : w.cell? ⟨g, pos, none⟩ = some (.int .u8 1) := hc
    clear hc
    go_enter Try.func24, Try.ntmps24
    go_wp2
    go_ret2
    exact ⟨by simp, rfl⟩

theorem and127 (y : Nat) : bits .and .u8 ((y : Int) % 128 + 128) 127 = (y : Int) % 128 := by
  have hk : ∀ k : Fin 128, (k.val + 128) &&& 127 = k.val := by decide +kernel
  have e0 : ((y : Int) % 128 + 128) = ((y % 128 + 128 : Nat) : Int) := by omega
  rw [e0]
  have e1 : (BitVec.ofInt 8 ((y % 128 + 128 : Nat) : Int)).toNat = y % 128 + 128 := by
    rw [BitVec.ofInt_natCast, BitVec.toNat_ofNat]; omega
  have e2 : (BitVec.ofInt 8 (127 : Int)).toNat = 127 := by decide
  have e3 : (y % 128 + 128) &&& 127 = y % 128 := hk ⟨y % 128, by omega⟩
  have e4 : bits .and .u8 ((y % 128 + 128 : Nat) : Int) 127 = IntKind.u8.wrap ((BitVec.ofInt 8 ((y % 128 + 128 : Nat) : Int) &&& BitVec.ofInt 8 (127 : Int)).toNat : Int) := rfl
  rw [e4, BitVec.toNat_and, e1, e2, e3, IntKind.wrap_u8]
  omega

/-- 'or' of numbers that share no bit. -/
theorem or64 (a b i : Nat) (ha : a < 2 ^ i) (hb : b < 4294967296) (ha2 : a < 4294967296) : bits .or .u64 (a : Int) ((b * 2 ^ i : Nat) : Int) = ((a + b * 2 ^ i : Nat) : Int) ∨ 18446744073709551616 ≤ b * 2 ^ i := by
  rcases Nat.lt_or_ge (b * 2 ^ i) 18446744073709551616 with h | h
  · left
    have e1 : (BitVec.ofInt 64 (a : Int)).toNat = a := by
      rw [BitVec.ofInt_natCast, BitVec.toNat_ofNat]; omega
    have e2 : (BitVec.ofInt 64 ((b * 2 ^ i : Nat) : Int)).toNat = b * 2 ^ i := by
      rw [BitVec.ofInt_natCast, BitVec.toNat_ofNat, Nat.mod_eq_of_lt h]
    have e3 : a ||| b * 2 ^ i = a + b * 2 ^ i := by
      have := Nat.two_pow_add_eq_or_of_lt ha b
      rw [Nat.or_comm, Nat.mul_comm, ← this, Nat.add_comm, Nat.mul_comm]
    have e4 : bits .or .u64 (a : Int) ((b * 2 ^ i : Nat) : Int) = IntKind.u64.wrap ((BitVec.ofInt 64 (a : Int) ||| BitVec.ofInt 64 ((b * 2 ^ i : Nat) : Int)).toNat : Int) := rfl
    have hlt : a + b * 2 ^ i < 18446744073709551616 := by
      have := (BitVec.ofInt 64 (a : Int) ||| BitVec.ofInt 64 ((b * 2 ^ i : Nat) : Int)).isLt
      rw [BitVec.toNat_or, e1, e2, e3] at this
      exact this
    rw [e4, BitVec.toNat_or, e1, e2, e3, IntKind.wrap_u64]
    omega
  · exact .inr h

theorem or64_0 (a y : Nat) (ha : a < 2 ^ (7 * 0)) (hy : y < 2097152) : bits .or .u64 (a : Int) (y : Int) = ((a + y : Nat) : Int) := by
  have := or64 a y 0 (by simpa using ha) (by omega) (by simp at ha; omega)
  simp only [Nat.pow_zero, Nat.mul_one] at this
  omega
theorem or64_1 (a y : Nat) (ha : a < 2 ^ (7 * 1)) (hy : y < 2097152) : bits .or .u64 (a : Int) ((y : Int) * 128) = ((a + y * 128 : Nat) : Int) := by
  have := or64 a y 7 (by simpa using ha) (by omega) (by simp at ha; omega)
  have e : (((y * 2 ^ 7 : Nat)) : Int) = (y : Int) * 128 := by omega
  rw [e] at this
  omega
theorem or64_2 (a y : Nat) (ha : a < 2 ^ (7 * 2)) (hy : y < 2097152) : bits .or .u64 (a : Int) ((y : Int) * 16384) = ((a + y * 16384 : Nat) : Int) := by
  have := or64 a y 14 (by simpa using ha) (by omega) (by simp at ha; omega)
  have e : (((y * 2 ^ 14 : Nat)) : Int) = (y : Int) * 16384 := by omega
  rw [e] at this
  omega

theorem ret_pair {v a : Int} {p q : Int} (h1 : v = a) (h2 : p = q) : Ending.returned (.tuple #[.int .u64 v, .int .i64 p]) = .returned (.tuple #[.int .u64 a, .int .i64 q]) := by rw [h1, h2]

theorem uv_tail {w : World} {g pos k y : Nat} (h : 128 ≤ y) (h2 : y < 2097152) (hc : ∀ j u, (bcells (uv y))[j]? = some u → w.cell? ⟨g, pos + k + j, none⟩ = some u) : ∀ j u, (bcells (uv (y / 128)))[j]? = some u → w.cell? ⟨g, pos + (k + 1) + j, none⟩ = some u := by
  intro j u hu
  have := hc (j + 1) u (by rw [uv_more h h2]; simpa [bcells] using hu)
  rwa [show pos + k + (j + 1) = pos + (k + 1) + j by omega] at this

set_option maxRecDepth 100000 in
set_option maxHeartbeats 2000000 in
theorem uvread_any (g n c pos v : Nat) (w : World) (hv : v < 2097152) (hp : pos + (uv v).length ≤ n) (hm : n ≤ 2097152) (hc : ∀ j u, (bcells (uv v))[j]? = some u → w.cell? ⟨g, pos + j, none⟩ = some u) :
    Calls Try.prog 33 #[.slice (some ⟨g, 0, none⟩) n c, .int .i64 pos] w fun e w' => e = .returned (.tuple #[.int .u64 v, .int .i64 (pos + (uv v).length : Nat)]) ∧ w = w' := by
  go_enter Try.func33, Try.ntmps33
  go_wp2
  go_loopg [6, 7, 8] 3 (fun G acc s kk wr => ∃ k y a : Nat, k + G = 3 ∧ kk = .int .i64 k ∧ s = .int .u64 (7 * k : Nat) ∧ acc = .int .u64 a ∧ w = wr ∧ a + y * 2 ^ (7 * k) = v ∧ a < 2 ^ (7 * k) ∧ y * 2 ^ (7 * k) < 2097152 ∧ (∀ j u, (bcells (uv y))[j]? = some u → w.cell? ⟨g, pos + k + j, none⟩ = some u) ∧ k + (uv y).length = (uv v).length)
  case atStart => exact ⟨0, v, 0, by omega, rfl, rfl, rfl, rfl, by simp, by simp, by simpa using hv, by simpa using hc, by simp⟩
  case round =>
    obtain ⟨k, y, a, hk, rfl, rfl, rfl, rfl, hay, ha, hy, hcy, hlen⟩ := hrel
    have Hk : Hid (k + gk = 3) := hk
    have Hlen : Hid (k + (uv y).length = (uv v).length) := hlen
    have Hay : Hid (a + y * 2 ^ (7 * k) = v) := hay
    have Hcy : Hid (∀ j u, (bcells (uv y))[j]? = some u → w.cell? ⟨g, pos + k + j, none⟩ = some u) := hcy
    have hk3 : k ≤ 2 := by
      have h1 := uv_pos y
      have h2 := uv_len v
      omega
    clear hk hlen hay hcy
    have hpk : pos + k < n := by have := Hlen.out; have := uv_pos y; omega
    clear hc hp
    by_cases h128 : y < 128
    · have hc0 : w.cell? ⟨g, pos + k, none⟩ = some (.int .u8 y) := Hcy.out 0 _ (by rw [uv_last h128]; rfl)
      have hl1 : (uv y).length = 1 := by rw [uv_last h128]; rfl
      rw [hl1] at Hlen
      clear hl1
      rcases (show k = 0 ∨ k = 1 ∨ k = 2 by omega) with rfl | rfl | rfl
      · rw [Nat.add_zero] at hc0
        go_wp2
        go_ret2
        refine ⟨ret_pair ?_ ?_, rfl⟩
        · have := or64_0 a y ha (by omega); have := Hay.out; simp at this; omega
        · have := Hlen.out; simp; omega
      · go_wp2
        go_ret2
        refine ⟨ret_pair ?_ ?_, rfl⟩
        · have := or64_1 a y ha (by omega); have := Hay.out; simp at this; omega
        · have := Hlen.out; simp; omega
      · go_wp2
        go_ret2
        refine ⟨ret_pair ?_ ?_, rfl⟩
        · have := or64_2 a y ha (by omega); have := Hay.out; simp at this; omega
        · have := Hlen.out; simp; omega
    · have hy21 : y < 2097152 := by
        have : y * 1 ≤ y * 2 ^ (7 * k) := Nat.mul_le_mul_left _ (Nat.pos_of_ne_zero (by simp))
        omega
      have hc0 : w.cell? ⟨g, pos + k, none⟩ = some (.int .u8 ((y : Int) % 128 + 128)) := Hcy.out 0 _ (by rw [uv_more (by omega) hy21]; rfl)
      have h127 := and127 y
      have hm128 : 0 ≤ (y : Int) % 128 ∧ (y : Int) % 128 < 128 := by omega
      have hl1 : (uv y).length = 1 + (uv (y / 128)).length := by rw [uv_more (by omega) hy21]; simp; omega
      have Hl1 : Hid ((uv y).length = 1 + (uv (y / 128)).length) := hl1
      clear hl1
      rcases (show k = 0 ∨ k = 1 ∨ k = 2 by omega) with rfl | rfl | rfl
      · rw [Nat.add_zero] at hc0
        go_wp2
        go_roundg (gk - 1)
        case rel =>
          have := Hk.out
          have := Hl1.out
          have := Hlen.out
          have := Hay.out
          refine ⟨1, y / 128, a + y % 128, by omega, rfl, rfl, ?_, rfl, ?_, ?_, ?_, uv_tail (by omega) hy21 Hcy.out, by omega⟩
          · have := or64_0 a (y % 128) ha (by omega)
            simp at this ⊢
            exact this
          · simp at this ⊢; omega
          · simp at ha ⊢; omega
          · simp; omega
        case measure => have := Hk.out; omega
      · go_wp2
        go_roundg (gk - 1)
        case rel =>
          have := Hk.out
          have := Hl1.out
          have := Hlen.out
          have := Hay.out
          refine ⟨2, y / 128, a + y % 128 * 128, by omega, rfl, rfl, ?_, rfl, ?_, ?_, ?_, uv_tail (by omega) hy21 Hcy.out, by omega⟩
          · have := or64_1 a (y % 128) ha (by omega)
            simp at this ⊢
            exact this
          · simp at this ⊢; omega
          · simp at ha ⊢; omega
          · simp at hy ⊢; omega
        case measure => have := Hk.out; omega
      · exfalso
        simp at hy
        omega
end Go.Proofs.Qxb6003417a
