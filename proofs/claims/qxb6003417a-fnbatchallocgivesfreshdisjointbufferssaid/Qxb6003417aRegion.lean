/- What one (*Batch).alloc leaves, said of regions of bytes; the two functions' contract. -/
import Derived.Test.Qxb6003417aAlloc
namespace Go.Proofs.Qxb6003417a
open Go.ChangeShapes Go.WideShapes Go.ChangeAt Go.RowKit
set_option linter.unusedVariables false
set_option linter.unusedSimpArgs false

/-! ### Regions of bytes -/

/-- The cell (b, o) lies among the l cells from a on. -/
def InR (a : Option Addr) (l : Nat) (b o : Nat) : Prop := ∃ s, a = some ⟨b, s, none⟩ ∧ s ≤ o ∧ o < s + l

/-- The l cells from a on hold the byte x and may be written. -/
structure Bytes (w : World) (a : Option Addr) (l : Nat) (x : Int) : Prop where
  addr : 0 < l → ∃ g s, a = some ⟨g, s, none⟩
  cell : ∀ b o, InR a l b o → w.cell? ⟨b, o, none⟩ = some (.int .u8 x)
  free : ∀ b o, InR a l b o → w.frozen? ⟨b, o, none⟩ = false

/-- The Batch in block Bb: its block's length lb, its free part. -/
structure BatchAt (w : World) (Bb lb : Nat) (af : Option Addr) (lf : Nat) : Prop where
  blk : ∃ ab cb, w.cell? ⟨Bb, 1, none⟩ = some (.slice ab lb cb)
  lb : lb ≤ 65536
  cell : w.cell? ⟨Bb, 2, none⟩ = some (.slice af lf lf)
  f1 : w.frozen? ⟨Bb, 1, none⟩ = false
  f2 : w.frozen? ⟨Bb, 2, none⟩ = false
  zeros : Bytes w af lf 0
  apart : ∀ o, ¬ InR af lf Bb o

/-- What one alloc leaves. -/
structure Given (w w' : World) (Bb n : Nat) (af : Option Addr) (lf : Nat) (ax : Option Addr) (lb' : Nat) (af' : Option Addr) (lf' : Nat) : Prop where
  batch : BatchAt w' Bb lb' af' lf'
  zeros : Bytes w' ax n 0
  old : ∀ b o, InR ax n b o → InR af lf b o ∨ w.heap.size ≤ b
  old' : ∀ b o, InR af' lf' b o → InR af lf b o ∨ w.heap.size ≤ b
  disj : ∀ b o, InR ax n b o → ¬ InR af' lf' b o
  cell : ∀ b o, b < w.heap.size → b ≠ Bb → w'.cell? ⟨b, o, none⟩ = w.cell? ⟨b, o, none⟩
  frozen : ∀ b o, b < w.heap.size → w'.frozen? ⟨b, o, none⟩ = w.frozen? ⟨b, o, none⟩
  below : Below Bb w w'

theorem InR.lt {w : World} {a : Option Addr} {l : Nat} {x : Int} (h : Bytes w a l x) {b o : Nat} (hi : InR a l b o) : b < w.heap.size :=
  World.block_lt_of_cell? _ _ (h.cell b o hi)

theorem given_cut {w : World} {Bb n lb lf : Nat} {af : Option Addr} (hb : BatchAt w Bb lb af lf) (hB : Bb < w.heap.size) (h : n ≤ lf) :
    Given w (w.setCell ⟨Bb, 2, none⟩ (.slice (if lf = n then af else af.map (·.add n)) (lf - n) (lf - n))) Bb n af lf af lb (if lf = n then af else af.map (·.add n)) (lf - n) := by
  have hne : ∀ b o, InR af lf b o → (⟨Bb, 2, none⟩ : Addr) ≠ ⟨b, o, none⟩ := by
    intro b o hi he
    injection he with e1 e2
    subst e1
    exact hb.apart o hi
  have hsub : ∀ b o, InR af n b o → InR af lf b o := by
    rintro b o ⟨s, hs, h1, h2⟩
    exact ⟨s, hs, h1, by omega⟩
  have hsub' : ∀ b o, InR (if lf = n then af else af.map (·.add n)) (lf - n) b o → InR af lf b o ∧ ¬ InR af n b o := by
    rintro b o ⟨s, hs, h1, h2⟩
    rw [if_neg (by omega)] at hs
    cases af with
    | none => simp at hs
    | some A =>
      obtain ⟨g, s0, rfl⟩ : ∃ g s0, A = ⟨g, s0, none⟩ := by
        obtain ⟨g, s0, hh⟩ := hb.zeros.addr (by omega)
        exact ⟨g, s0, by simpa using hh⟩
      simp only [Option.map_some, Addr.add_lit, Option.some.injEq, Addr.mk.injEq] at hs
      obtain ⟨rfl, rfl, _⟩ := hs
      refine ⟨⟨s0, rfl, by omega, by omega⟩, ?_⟩
      rintro ⟨s1, hs1, h3, h4⟩
      obtain rfl : s0 = s1 := by injection hs1 with e; injection e
      omega
  refine ⟨⟨?_, hb.lb, ?_, ?_, ?_, ⟨?_, ?_, ?_⟩, ?_⟩, ⟨?_, ?_, ?_⟩, ?_, ?_, ?_, ?_, ?_, ?_⟩
  · obtain ⟨ab, cb, h0⟩ := hb.blk
    exact ⟨ab, cb, by rw [World.cell?_setCell_other _ _ _ _ (by simp)]; exact h0⟩
  · exact World.cell?_setCell_same _ _ _ hb.cell
  · rw [World.frozen?_setCell]; exact hb.f1
  · rw [World.frozen?_setCell]; exact hb.f2
  · intro hp
    obtain ⟨g, s, rfl⟩ := hb.zeros.addr (by omega)
    rw [if_neg (by omega)]
    exact ⟨g, s + n, by simp [Addr.add_lit]⟩
  · intro b o hi
    rw [World.cell?_setCell_other _ _ _ _ (hne b o (hsub' b o hi).1)]
    exact hb.zeros.cell b o (hsub' b o hi).1
  · intro b o hi
    rw [World.frozen?_setCell]; exact hb.zeros.free b o (hsub' b o hi).1
  · intro o hi
    exact hb.apart o (hsub' Bb o hi).1
  · intro hp; exact hb.zeros.addr (by omega)
  · intro b o hi
    rw [World.cell?_setCell_other _ _ _ _ (hne b o (hsub b o hi))]
    exact hb.zeros.cell b o (hsub b o hi)
  · intro b o hi
    rw [World.frozen?_setCell]; exact hb.zeros.free b o (hsub b o hi)
  · exact fun b o hi => .inl (hsub b o hi)
  · exact fun b o hi => .inl (hsub' b o hi).1
  · exact fun b o hi hi' => (hsub' b o hi').2 hi
  · intro b o hlt hn
    exact World.cell?_setCell_other _ _ _ _ (fun e => hn (by injection e with e1; exact e1.symm))
  · intro b o hlt
    rw [World.frozen?_setCell]
  · exact (Below.refl Bb w).setCell (p := ⟨Bb, 2, none⟩) (Nat.le_refl Bb) _


theorem given_big {w : World} {Bb n lb lf : Nat} {af : Option Addr} (hb : BatchAt w Bb lb af lf) (hB : Bb < w.heap.size) :
    Given w (w.alloc (.cells (madeCells #[.int .u8 0] n) 5)) Bb n af lf (some ⟨w.heap.size, 0, none⟩) lb af lf := by
  have hin : ∀ b o, InR (some ⟨w.heap.size, 0, none⟩) n b o → b = w.heap.size ∧ o < n := by
    rintro b o ⟨s, hs, h1, h2⟩
    simp at hs
    omega
  have hold : ∀ b o, b < w.heap.size → (w.alloc (.cells (madeCells #[.int .u8 0] n) 5)).cell? ⟨b, o, none⟩ = w.cell? ⟨b, o, none⟩ := fun b o h => World.cell?_alloc_past _ _ _ h
  have hfro : ∀ b o, b < w.heap.size → (w.alloc (.cells (madeCells #[.int .u8 0] n) 5)).frozen? ⟨b, o, none⟩ = w.frozen? ⟨b, o, none⟩ := fun b o h => World.frozen?_alloc_past _ _ _ h
  refine ⟨⟨?_, hb.lb, ?_, ?_, ?_, ⟨hb.zeros.addr, ?_, ?_⟩, hb.apart⟩, ⟨?_, ?_, ?_⟩, ?_, ?_, ?_, ?_, ?_, ?_⟩
  · obtain ⟨ab, cb, h0⟩ := hb.blk
    exact ⟨ab, cb, by rw [hold _ _ hB]; exact h0⟩
  · rw [hold _ _ hB]; exact hb.cell
  · rw [hfro _ _ hB]; exact hb.f1
  · rw [hfro _ _ hB]; exact hb.f2
  · intro b o hi
    rw [hold _ _ (InR.lt hb.zeros hi)]; exact hb.zeros.cell b o hi
  · intro b o hi
    rw [hfro _ _ (InR.lt hb.zeros hi)]; exact hb.zeros.free b o hi
  · exact fun _ => ⟨_, _, rfl⟩
  · intro b o hi
    obtain ⟨rfl, ho⟩ := hin b o hi
    rw [World.cell?_alloc_at _ _ _ _ rfl, madeCells_one _ _ _ ho]
  · intro b o hi
    obtain ⟨rfl, ho⟩ := hin b o hi
    exact World.frozen?_alloc_at _ _ _ _ rfl
  · exact fun b o hi => .inr (Nat.le_of_eq (hin b o hi).1.symm)
  · exact fun b o hi => .inl hi
  · intro b o hi hi'
    have := InR.lt hb.zeros hi'
    have := (hin b o hi).1
    omega
  · exact fun b o h _ => hold b o h
  · exact fun b o h => hfro b o h
  · exact (Below.refl Bb w).alloc (Nat.le_of_lt hB) _

theorem given_new {w : World} {Bb n lb lf sz : Nat} {af : Option Addr} (hb : BatchAt w Bb lb af lf) (hB : Bb < w.heap.size) (hn : n ≤ sz) (hsz : sz ≤ 65536) :
    Given w ((((w.alloc (.cells (madeCells #[.int .u8 0] sz) 5)).setCell ⟨Bb, 1, none⟩ (.slice (some ⟨w.heap.size, 0, none⟩) sz sz)).setCell ⟨Bb, 2, none⟩ (.slice (some ⟨w.heap.size, 0, none⟩) sz sz)).setCell ⟨Bb, 2, none⟩ 
         (.slice (if sz = n then some ⟨w.heap.size, 0, none⟩ else some ⟨w.heap.size, n, none⟩) (sz - n) (sz - n)))
      Bb n af lf (some ⟨w.heap.size, 0, none⟩) sz (if sz = n then some ⟨w.heap.size, 0, none⟩ else some ⟨w.heap.size, n, none⟩) (sz - n) := by
  have hin : ∀ b o, InR (some ⟨w.heap.size, 0, none⟩) n b o → b = w.heap.size ∧ o < n := by
    rintro b o ⟨s, hs, h1, h2⟩
    simp at hs
    omega
  have hin' : ∀ b o, InR (if sz = n then some ⟨w.heap.size, 0, none⟩ else some ⟨w.heap.size, n, none⟩) (sz - n) b o → b = w.heap.size ∧ n ≤ o ∧ o < sz := by
    rintro b o ⟨s, hs, h1, h2⟩
    rw [if_neg (by omega)] at hs
    simp at hs
    omega
  obtain ⟨w1, hw1⟩ : ∃ w1, w1 = w.alloc (.cells (madeCells #[.int .u8 0] sz) 5) := ⟨_, rfl⟩
  have hold : ∀ b o, b < w.heap.size → w1.cell? ⟨b, o, none⟩ = w.cell? ⟨b, o, none⟩ := fun b o h => by rw [hw1]; exact World.cell?_alloc_past _ _ _ h
  have hfro : ∀ b o, b < w.heap.size → w1.frozen? ⟨b, o, none⟩ = w.frozen? ⟨b, o, none⟩ := fun b o h => by rw [hw1]; exact World.frozen?_alloc_past _ _ _ h
  have hnew : ∀ o, o < sz → w1.cell? ⟨w.heap.size, o, none⟩ = some (.int .u8 0) := fun o h => by rw [hw1, World.cell?_alloc_at _ _ _ _ rfl, madeCells_one _ _ _ h]
  have hnewf : ∀ o, w1.frozen? ⟨w.heap.size, o, none⟩ = false := fun o => by rw [hw1]; exact World.frozen?_alloc_at _ _ _ _ rfl
  have hbel : Below Bb w w1 := by rw [hw1]; exact (Below.refl Bb w).alloc (Nat.le_of_lt hB) _
  rw [← hw1]
  clear hw1
  obtain ⟨ab, cb, hblk⟩ := hb.blk
  have k1 : w1.cell? ⟨Bb, 1, none⟩ = some (.slice ab lb cb) := (hold _ _ hB).trans hblk
  have k2 : w1.cell? ⟨Bb, 2, none⟩ = some (.slice af lf lf) := (hold _ _ hB).trans hb.cell
  generalize hv1 : Value.slice (some ⟨w.heap.size, 0, none⟩) sz sz = v1
  generalize hv2 : Value.slice (if sz = n then some ⟨w.heap.size, 0, none⟩ else some ⟨w.heap.size, n, none⟩) (sz - n) (sz - n) = v2
  obtain ⟨w2, hw2⟩ : ∃ w2, w2 = ((w1.setCell ⟨Bb, 1, none⟩ v1).setCell ⟨Bb, 2, none⟩ v1).setCell ⟨Bb, 2, none⟩ v2 := ⟨_, rfl⟩
  have hcell : ∀ b o, b ≠ Bb → w2.cell? ⟨b, o, none⟩ = w1.cell? ⟨b, o, none⟩ := by
    intro b o hne
    have hx : ∀ j, (⟨Bb, j, none⟩ : Addr) ≠ ⟨b, o, none⟩ := fun j e => hne (by injection e with e1; exact e1.symm)
    rw [hw2, World.cell?_setCell_other _ _ _ _ (hx 2), World.cell?_setCell_other _ _ _ _ (hx 2), World.cell?_setCell_other _ _ _ _ (hx 1)]
  have hfr : ∀ b o, w2.frozen? ⟨b, o, none⟩ = w1.frozen? ⟨b, o, none⟩ := by
    intro b o
    rw [hw2, World.frozen?_setCell, World.frozen?_setCell, World.frozen?_setCell]
  have hc1 : w2.cell? ⟨Bb, 1, none⟩ = some v1 := by
    rw [hw2, World.cell?_setCell_other _ _ _ _ (by simp), World.cell?_setCell_other _ _ _ _ (by simp)]
    exact World.cell?_setCell_same _ _ _ k1
  have hc2 : w2.cell? ⟨Bb, 2, none⟩ = some v2 := by
    rw [hw2]
    refine World.cell?_setCell_same _ _ _ (u := v1) ?_
    refine World.cell?_setCell_same _ _ _ (u := .slice af lf lf) ?_
    rw [World.cell?_setCell_other _ _ _ _ (by simp)]; exact k2
  have hbel2 : Below Bb w w2 := by
    rw [hw2]
    exact ((hbel.setCell (p := ⟨Bb, 1, none⟩) (Nat.le_refl Bb) _).setCell (p := ⟨Bb, 2, none⟩) (Nat.le_refl Bb) _).setCell (p := ⟨Bb, 2, none⟩) (Nat.le_refl Bb) _
  rw [← hw2]
  clear hw2
  have hne : w.heap.size ≠ Bb := by omega
  refine ⟨⟨⟨_, _, hv1 ▸ hc1⟩, hsz, hv2 ▸ hc2, ?_, ?_, ⟨?_, ?_, ?_⟩, ?_⟩, ⟨?_, ?_, ?_⟩, ?_, ?_, ?_, ?_, ?_, hbel2⟩
  · rw [hfr, hfro _ _ hB]; exact hb.f1
  · rw [hfr, hfro _ _ hB]; exact hb.f2
  · intro _; split <;> exact ⟨_, _, rfl⟩
  · intro b o hi
    obtain ⟨rfl, h1, h2⟩ := hin' b o hi
    rw [hcell _ _ hne]; exact hnew o h2
  · intro b o hi
    obtain ⟨rfl, h1, h2⟩ := hin' b o hi
    rw [hfr]; exact hnewf o
  · intro o hi
    have := (hin' _ o hi).1
    omega
  · exact fun _ => ⟨_, _, rfl⟩
  · intro b o hi
    obtain ⟨rfl, h1⟩ := hin b o hi
    rw [hcell _ _ hne]; exact hnew o (by omega)
  · intro b o hi
    obtain ⟨rfl, h1⟩ := hin b o hi
    rw [hfr]; exact hnewf o
  · exact fun b o hi => .inr (Nat.le_of_eq (hin b o hi).1.symm)
  · exact fun b o hi => .inr (Nat.le_of_eq (hin' b o hi).1.symm)
  · intro b o hi hi'
    have h1 := (hin b o hi).2
    have h2 := (hin' b o hi').2.1
    omega
  · intro b o h hb'
    rw [hcell b o hb', hold b o h]
  · intro b o h
    rw [hfr, hfro b o h]

/-- (*Batch).alloc, whatever is asked of it up to 65536. -/
theorem alloc_any (Bb n lb lf : Nat) (af : Option Addr) (w : World) (hn : n ≤ 65536) (hB : Bb < w.heap.size) (hb : BatchAt w Bb lb af lf) :
    Calls Try.prog 41 #[.pointer (some ⟨Bb, 0, none⟩), .int .i64 n] w fun e w' => ∃ ax lb' af' lf', e = .returned (.slice ax n n) ∧ Given w w' Bb n af lf ax lb' af' lf' := by
  by_cases h1 : 8192 < n
  · refine (alloc_big _ n w h1 hn).mono ?_
    rintro e w' ⟨rfl, rfl⟩
    exact ⟨_, _, _, _, rfl, given_big hb hB⟩
  · by_cases h2 : n ≤ lf
    · refine (alloc_cut Bb n lf af w (by omega) h2 hb.cell hb.f2).mono ?_
      rintro e w' ⟨rfl, rfl⟩
      exact ⟨_, _, _, _, rfl, given_cut hb hB h2⟩
    · obtain ⟨ab, cb, hblk⟩ := hb.blk
      have hlb := hb.lb
      obtain ⟨sz, hs1, hs2, hm⟩ : ∃ sz : Nat, n ≤ sz ∧ sz ≤ 65536 ∧ ((2 * lb < 256 ∧ n ≤ 256 ∧ Hid (sz = 256)) ∨ (2 * lb < 256 ∧ 256 < n ∧ Hid (sz = n)) ∨ (256 ≤ 2 * lb ∧ n ≤ 2 * lb ∧ 2 * lb ≤ 65536 ∧ Hid (sz = 2 * lb)) ∨ (256 ≤ 2 * lb ∧ 2 * lb < n ∧ Hid (sz = n)) ∨ (65536 < 2 * lb ∧ Hid (sz = 65536))) := by
        by_cases a : 2 * lb < 256
        · by_cases b : n ≤ 256
          · exact ⟨256, b, by omega, .inl ⟨a, b, rfl⟩⟩
          · exact ⟨n, Nat.le_refl _, by omega, .inr (.inl ⟨a, by omega, rfl⟩)⟩
        · by_cases b : 2 * lb < n
          · exact ⟨n, Nat.le_refl _, by omega, .inr (.inr (.inr (.inl ⟨by omega, b, rfl⟩)))⟩
          · by_cases c : 2 * lb ≤ 65536
            · exact ⟨2 * lb, by omega, c, .inr (.inr (.inl ⟨by omega, by omega, c, rfl⟩))⟩
            · exact ⟨65536, by omega, by omega, .inr (.inr (.inr (.inr ⟨by omega, rfl⟩)))⟩
      refine (alloc_new sz Bb n lb cb lf ab af w (by omega) (by omega) hlb hB hs1 hs2 hm hblk hb.cell hb.f1 hb.f2).mono ?_
      rintro e w' ⟨rfl, rfl⟩
      exact ⟨_, _, _, _, rfl, given_new hb hB hs1 hs2⟩

/-- ZZAlloc hands it through. -/
theorem zzalloc_any (Bb n lb lf : Nat) (af : Option Addr) (w : World) (hn : n ≤ 65536) (hB : Bb < w.heap.size) (hb : BatchAt w Bb lb af lf) :
    Calls Try.prog 16 #[.pointer (some ⟨Bb, 0, none⟩), .int .i64 n] w fun e w' => ∃ ax lb' af' lf', e = .returned (.slice ax n n) ∧ Given w w' Bb n af lf ax lb' af' lf' := by
  go_enter Try.func16, Try.ntmps16
  go_wp2_with (go_at_call 41; refine (alloc_any Bb n lb lf af _ hn hB hb).mono ?_; rintro e w' ⟨ax, lb', af', lf', rfl, hg⟩)
  go_ret
  exact ⟨ax, lb', af', lf', rfl, hg⟩

end Go.Proofs.Qxb6003417a
