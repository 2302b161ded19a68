import Derived.Test.Qxb6602021aVal
namespace Go.Proofs.Qxb6602021a
open Go.ChangeShapes Go.WideShapes Go.ChangeAt Go.RowKit
set_option linter.unusedVariables false
set_option linter.unusedSimpArgs false

/-- A byte 'or'ed below a number that was moved up by eight. -/
theorem or_byte (a b : Nat) (ha : a < 72057594037927936) (hb : b < 256) : bits .or .u64 ((a : Int) * 256) (b : Int) = (a : Int) * 256 + (b : Int) := by
  have e0 : ((a : Int) * 256) = ((a * 256 : Nat) : Int) := by omega
  rw [e0]
  have e1 : (BitVec.ofInt 64 ((a * 256 : Nat) : Int)).toNat = a * 256 := by
    rw [BitVec.ofInt_natCast, BitVec.toNat_ofNat, Nat.mod_eq_of_lt (by omega)]
  have e2 : (BitVec.ofInt 64 (b : Int)).toNat = b := by
    rw [BitVec.ofInt_natCast, BitVec.toNat_ofNat, Nat.mod_eq_of_lt (by omega)]
  have e3 : a * 256 ||| b = a * 256 + b := by
    have h := Nat.two_pow_add_eq_or_of_lt (i := 8) (b := b) (by omega) a
    rw [show (2 : Nat) ^ 8 = 256 from rfl] at h
    rw [Nat.mul_comm a 256, ← h]
  have e4 : bits .or .u64 ((a * 256 : Nat) : Int) (b : Int) = IntKind.u64.wrap ((BitVec.ofInt 64 ((a * 256 : Nat) : Int) ||| BitVec.ofInt 64 (b : Int)).toNat : Int) := rfl
  rw [e4, BitVec.toNat_or, e1, e2, e3, IntKind.wrap_u64]
  omega

/-- The k bytes of A from place off on, as a number. -/
def word (A : List Int) (off k : Nat) : Int := val ((A.drop off).take k)

theorem val_snoc (A : List Int) (b : Int) : val (A ++ [b]) = val A * 256 + b := by
  rw [val_append]; simp [val]

theorem word_succ {A : List Int} {off k : Nat} (h : off + k < A.length) : word A off (k + 1) = word A off k * 256 + A.getD (off + k) 0 := by
  unfold word
  rw [List.take_succ_eq_append_getElem (by simp; omega), val_snoc]
  simp [h]

theorem word_bd {A : List Int} (h : ∀ x ∈ A, 0 ≤ x ∧ x ≤ 255) (off k : Nat) (hk : off + k ≤ A.length) : 0 ≤ word A off k ∧ word A off k < 256 ^ k := by
  have := val_bd ((A.drop off).take k) (fun x hx => h x (List.mem_of_mem_drop (List.mem_of_mem_take hx)))
  rw [show ((A.drop off).take k).length = k by simp; omega] at this
  exact this

set_option maxRecDepth 100000 in
set_option maxHeartbeats 1000000 in
theorem word_any (A : List Int) (X : Array Value) (off : Nat) (w : World) (hX : Hid (X = (bcells A).toArray)) (ha : IsBytes 16 A) (ho : off ≤ 8) :
    Calls Try.prog 8 #[.agg X, .int .i64 off] w fun e w' => e = .returned (.int .u64 (word A off 8)) ∧ Below w.heap.size w w' := by
  have hc : Hid (∀ i, i < 16 → (w.alloc (.cells X 22)).cell? ⟨w.heap.size, i, none⟩ = some (.int .u8 (A.getD i 0))) := by
    intro i hi
    rw [World.cell?_alloc_at _ _ _ _ rfl, hX.out]
    have := ha.1
    simpa using bcells_get (by omega)
  have hb : Below w.heap.size w (w.alloc (.cells X 22)) := (Below.refl _ _).alloc (Nat.le_refl _) _
  go_enter Try.func8, Try.ntmps8
  go_wp2
  generalize w.alloc (.cells X 22) = W at *
  go_loopg [5, 6] 8 (fun g acc i wr => ∃ k : Nat, k + g = 8 ∧ i = .int .i64 k ∧ acc = .int .u64 (word A off k) ∧ W = wr)
  case atStart => exact ⟨0, by omega, rfl, by simp [word, val], rfl⟩
  case round =>
    obtain ⟨k, hk, rfl, rfl, rfl⟩ := hrel
    have Hk : Hid (k + gk = 8) := hk
    have hk' : k ≤ 8 := by omega
    clear hk
    by_cases hlt : k < 8
    · have hcell := hc.out (off + k) (by omega)
      have hs := word_succ (A := A) (off := off) (k := k) (by have := ha.1; omega)
      have hbd := word_bd ha.2 off k (by have := ha.1; omega)
      have hby := ha.get (off + k)
      have hp : (256 : Int) ^ k ≤ 72057594037927936 := by
        rcases (show k = 0 ∨ k = 1 ∨ k = 2 ∨ k = 3 ∨ k = 4 ∨ k = 5 ∨ k = 6 ∨ k = 7 by omega) with rfl | rfl | rfl | rfl | rfl | rfl | rfl | rfl <;> decide
      generalize A.getD (off + k) 0 = b at hcell hs hby
      have Hs : Hid (word A off (k + 1) = word A off k * 256 + b) := hs
      obtain ⟨q, hq⟩ := Int.eq_ofNat_of_zero_le hbd.1
      obtain ⟨c, rfl⟩ := Int.eq_ofNat_of_zero_le hby.1
      rw [hq] at hbd ⊢
      have Hq : Hid (word A off k = q) := hq
      clear hs hq
      have hq2 : (q : Int) < 72057594037927936 := by omega
      have hor := or_byte q c (by omega) (by omega)
      have hw : IntKind.u64.wrap ((q : Int) * 256) = (q : Int) * 256 := by rw [IntKind.wrap_u64]; omega
      have hc256 : (c : Int) ≤ 255 := hby.2
      clear hp hbd hq2 hby
      go_wp2
      go_roundg (gk - 1)
      case rel =>
        have := Hk.out
        refine ⟨k + 1, by omega, by go_num, ?_, rfl⟩
        rw [Hs.out, Hq.out]
      case measure => have := Hk.out; omega
    · go_wp2
      obtain rfl : k = 8 := by omega
      go_ret
      exact ⟨rfl, hb⟩

/-- Byte i of the word x, most significant first. -/
def byteAt (x : Nat) (i : Nat) : Int := ((x / 256 ^ (7 - i) % 256 : Nat) : Int)

/-- L with the bytes g .. 7 of x laid from off on. -/
def put8 (L : List Int) (off x g : Nat) : List Int := (List.range 16).map fun p => if off + g ≤ p ∧ p < off + 8 then byteAt x (p - off) else L.getD p 0

theorem put8_length (L : List Int) (off x g : Nat) : (put8 L off x g).length = 16 := by simp [put8]

theorem put8_start {L : List Int} (h : L.length = 16) (off x : Nat) : put8 L off x 8 = L := by
  apply List.ext_getElem?
  intro i
  by_cases hi : i < 16
  · simp only [put8, List.getElem?_map, List.getElem?_range hi, Option.map_some]
    rw [if_neg (by omega), List.getElem?_eq_getElem (by omega)]
    simp [show i < L.length by omega]
  · rw [List.getElem?_eq_none (by rw [put8_length]; omega), List.getElem?_eq_none (by omega)]

theorem put8_step (L : List Int) {off x m : Nat} (hm : m < 8) (ho : off ≤ 8) : (put8 L off x (m + 1)).set (off + m) (byteAt x m) = put8 L off x m := by
  apply List.ext_getElem?
  intro i
  rw [List.getElem?_set, put8_length]
  by_cases hi : i < 16
  · by_cases e : off + m = i
    · subst e
      rw [if_pos rfl, if_pos hi]
      simp only [put8, List.getElem?_map, List.getElem?_range hi, Option.map_some]
      rw [if_pos (by omega), show off + m - off = m by omega]
    · rw [if_neg e]
      simp only [put8, List.getElem?_map, List.getElem?_range hi, Option.map_some]
      by_cases h1 : off + m ≤ i ∧ i < off + 8
      · rw [if_pos (by omega), if_pos h1]
      · rw [if_neg (by omega), if_neg h1]
  · rw [if_neg (by omega), List.getElem?_eq_none (by rw [put8_length]; omega), List.getElem?_eq_none (by rw [put8_length]; omega)]

set_option maxRecDepth 100000 in
set_option maxHeartbeats 1000000 in
theorem setWord_any (g off x : Nat) (L : List Int) (w : World) (hL : L.length = 16) (ho : off ≤ 8) (hg : w.heap[g]? = some (.cells (bcells L).toArray 22 (0, 0))) :
    Calls Try.prog 9 #[.pointer (some ⟨g, 0, none⟩), .int .i64 off, .int .u64 x] w fun e w' => e = .returned (.tuple #[]) ∧ w'.heap[g]? = some (.cells (bcells (put8 L off x 0)).toArray 22 (0, 0)) ∧ Below g w w' := by
  have Hg : Hid (w.heap[g]? = some (.cells (bcells L).toArray 22 (0, 0))) := hg
  clear hg
  have HL : Hid (L.length = 16) := hL
  clear hL
  go_enter Try.func9, Try.ntmps9
  go_wp2
  go_loopg [2, 6] 8 (fun G t i wr => G ≤ 8 ∧ i = .int .i64 ((G : Int) - 1) ∧ t = .int .u64 ((x / 256 ^ (8 - G) : Nat) : Int) ∧ wr.heap[g]? = some (.cells (bcells (put8 L off x G)).toArray 22 (0, 0)) ∧ Below g w wr)
  case atStart => exact ⟨by omega, by go_num, by simp, by rw [put8_start HL.out]; exact Hg.out, Below.refl _ _⟩
  case round =>
    obtain ⟨hG, rfl, rfl, hrow, hb⟩ := hrel
    have Hrow : Hid (wr.heap[g]? = some (.cells (bcells (put8 L off x gk)).toArray 22 (0, 0))) := hrow
    clear hrow
    cases gk with
    | zero =>
      go_wp2
      go_end0
      exact ⟨rfl, Hrow.out, hb⟩
    | succ m =>
      have hcell : wr.cell? ⟨g, off + m, none⟩ = some (.int .u8 ((put8 L off x (m + 1)).getD (off + m) 0)) := by
        rw [cell_of_row _ _ _ _ _ _ Hrow.out]
        simpa using bcells_get (xs := put8 L off x (m + 1)) (i := off + m) (by rw [put8_length]; omega)
      generalize (put8 L off x (m + 1)).getD (off + m) 0 = z at hcell
      have hfz : wr.frozen? ⟨g, off + m, none⟩ = false := frozen_of_row _ _ _ _ _ Hrow.out
      have e1 : ((m + 1 : Nat) : Int) - 1 = (m : Int) := by omega
      rw [e1]
      have e2 : 8 - (m + 1) = 7 - m := by omega
      rw [e2]
      have hby : byteAt x m = ((x / 256 ^ (7 - m) : Nat) : Int) % 256 := by unfold byteAt; omega
      have Hby : Hid (byteAt x m = ((x / 256 ^ (7 - m) : Nat) : Int) % 256) := hby
      have hnx : x / 256 ^ (7 - m) / 256 = x / 256 ^ (8 - m) := by
        rw [Nat.div_div_eq_div_mul, ← Nat.pow_succ, show (7 - m).succ = 8 - m by omega]
      have Hnx : Hid (x / 256 ^ (7 - m) / 256 = x / 256 ^ (8 - m)) := hnx
      clear hby hnx e1 e2
      generalize x / 256 ^ (7 - m) = y at *
      go_wp2
      go_roundg m
      case rel =>
        refine ⟨by omega, rfl, ?_, ?_, hb.setCell (p := ⟨g, off + m, none⟩) (Nat.le_refl g) _⟩
        · rw [← Hnx.out]; simp
        · rw [heap_setCell_same wr g (off + m) _ 22 _ Hrow.out, ← put8_step (m := m) L (by omega) ho, bcells_set, Hby.out]; simp
      case measure => omega

theorem byteAt_bd (x i : Nat) : 0 ≤ byteAt x i ∧ byteAt x i ≤ 255 := by unfold byteAt; omega

theorem word_bytes (x : Nat) (hx : x < 18446744073709551616) : val [byteAt x 0, byteAt x 1, byteAt x 2, byteAt x 3, byteAt x 4, byteAt x 5, byteAt x 6, byteAt x 7] = (x : Int) := by
  simp only [val, byteAt, List.length_cons, List.length_nil]
  simp only [Nat.reduceSub, Nat.reducePow, Nat.reduceAdd, Int.reducePow]
  omega

theorem want_val (hi lo : Nat) (h1 : hi < 18446744073709551616) (h2 : lo < 18446744073709551616) : IsBytes 16 (put8 (put8 (List.replicate 16 0) 0 hi 0) 8 lo 0) ∧ val (put8 (put8 (List.replicate 16 0) 0 hi 0) 8 lo 0) = (hi : Int) * 18446744073709551616 + lo := by
  have e : put8 (put8 (List.replicate 16 0) 0 hi 0) 8 lo 0 = [byteAt hi 0, byteAt hi 1, byteAt hi 2, byteAt hi 3, byteAt hi 4, byteAt hi 5, byteAt hi 6, byteAt hi 7] ++ [byteAt lo 0, byteAt lo 1, byteAt lo 2, byteAt lo 3, byteAt lo 4, byteAt lo 5, byteAt lo 6, byteAt lo 7] := rfl
  rw [e]
  constructor
  · refine ⟨rfl, fun x hx => ?_⟩
    simp only [List.mem_append, List.mem_cons, List.not_mem_nil, or_false] at hx
    rcases hx with hx | hx <;> rcases hx with rfl | rfl | rfl | rfl | rfl | rfl | rfl | rfl <;> exact byteAt_bd _ _
  · rw [val_append, word_bytes hi h1, word_bytes lo h2]
    simp only [List.length_cons, List.length_nil, Nat.reduceAdd, Int.reducePow]

end Go.Proofs.Qxb6602021a
