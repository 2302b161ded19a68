/- appendFlag, binary.AppendUvarint, appendKey: walked. -/
import Derived.Test.Qxb6003417aApp
import Derived.Deep.LoopGhost
namespace Go.Proofs.Qxb6003417a
open Go.ChangeShapes Go.WideShapes Go.ChangeAt Go.RowKit
set_option linter.unusedVariables false
set_option linter.unusedSimpArgs false

def flagB (f : Bool) : Int := if f then 1 else 0

theorem one_new (w : World) (y : Int) : ∀ ad, some (⟨w.heap.size, 0, none⟩ : Addr) = some ad → ∀ j u, (bcells [y])[j]? = some u → (w.alloc (.cells #[.int .u8 y] 5)).cell? (ad.add j) = some u := by
  intro ad had j u hu
  obtain rfl := Option.some.inj had
  match j, hu with
  | 0, hu =>
    rw [Addr.add_lit, Nat.add_zero, World.cell?_alloc_at _ _ _ _ rfl]
    simpa [bcells] using hu

set_option maxHeartbeats 400000 in
theorem flag_any (B : Nat) (v : Value) (xs : List Int) (f : Bool) (w : World) (hown : Own B w v xs) (hb : xs.length ≤ 1073741800) (hB : B ≤ w.heap.size) :
    Calls Try.prog 54 #[v, .bool f] w fun e w' => ∃ v', e = .returned v' ∧ AppTo B w w' v v' xs [flagB f] := by
  cases f
  · go_enter Try.func54, Try.ntmps54
    go_wp2_with (at_builtin; refine wpList_app rfl _ _ 22 rfl Try.underlying22 Try.info5 B v xs rfl (hown.alloc _) (some ⟨w.heap.size, 0, none⟩) 1 1 [0] rfl rfl (by intro h; cases h) (one_new w 0) ?hb1 ?hB1 ?_; )
    case hb1 => omega
    case hB1 => simp; omega
    intro v' w' A
    go_wp2
    go_ret
    exact ⟨v', rfl, A.afterAlloc hB⟩
  · go_enter Try.func54, Try.ntmps54
    go_wp2_with (at_builtin; refine wpList_app rfl _ _ 22 rfl Try.underlying22 Try.info5 B v xs rfl (hown.alloc _) (some ⟨w.heap.size, 0, none⟩) 1 1 [1] rfl rfl (by intro h; cases h) (one_new w 1) ?hb2 ?hB2 ?_; )
    case hb2 => omega
    case hB2 => simp; omega
    intro v' w' A
    go_wp2
    go_ret
    exact ⟨v', rfl, A.afterAlloc hB⟩

/-- The unsigned varint of x, x below 2^21. -/
def uv (x : Nat) : List Int := if x < 128 then [(x : Int)] else if x < 16384 then [(x : Int) % 128 + 128, (x : Int) / 128] else [(x : Int) % 128 + 128, (x : Int) / 128 % 128 + 128, (x : Int) / 16384]

theorem uv_len (x : Nat) : (uv x).length ≤ 3 := by
  unfold uv
  split
  · simp
  · split <;> simp

theorem uv_last {x : Nat} (h : x < 128) : uv x = [(x : Int)] := if_pos h
theorem uv_more {x : Nat} (h : 128 ≤ x) (h2 : x < 2097152) : uv x = ((x : Int) % 128 + 128) :: uv (x / 128) := by
  unfold uv
  rw [if_neg (by omega)]
  by_cases h3 : x < 16384
  · rw [if_pos h3, if_pos (by omega)]; rfl
  · rw [if_neg h3, if_neg (by omega), if_pos (by omega)]
    congr 3
    omega

theorem or128 (m : Nat) : bits .or .u8 ((m : Int) % 256) 128 = (m : Int) % 128 + 128 := by
  have hk : ∀ k : Fin 256, k.val ||| 128 = k.val % 128 + 128 := by decide +kernel
  have e0 : ((m : Int) % 256) = ((m % 256 : Nat) : Int) := by omega
  rw [e0]
  have e1 : (BitVec.ofInt 8 ((m % 256 : Nat) : Int)).toNat = m % 256 := by
    rw [BitVec.ofInt_natCast, BitVec.toNat_ofNat]; omega
  have e2 : (BitVec.ofInt 8 (128 : Int)).toNat = 128 := by decide
  have e3 : (m % 256) ||| 128 = m % 256 % 128 + 128 := hk ⟨m % 256, by omega⟩
  have e4 : bits .or .u8 ((m % 256 : Nat) : Int) 128 = IntKind.u8.wrap ((BitVec.ofInt 8 ((m % 256 : Nat) : Int) ||| BitVec.ofInt 8 (128 : Int)).toNat : Int) := rfl
  rw [e4, BitVec.toNat_or, e1, e2, e3, IntKind.wrap_u8]
  omega

set_option maxRecDepth 100000 in
set_option maxHeartbeats 1000000 in
theorem uvarint_any (B : Nat) (v : Value) (xs : List Int) (x : Nat) (w : World) (hown : Own B w v xs) (hb : xs.length ≤ 1073741800) (hx : x < 2097152) (hB : B ≤ w.heap.size) :
    Calls Try.prog 57 #[v, .int .u64 x] w fun e w' => ∃ v', e = .returned v' ∧ AppTo B w w' v v' xs (uv x) := by
  go_enter Try.func57, Try.ntmps57
  go_wp2
  go_loopg [0, 1] x (fun g b t wr => ∃ (y : Nat) (dn : List Int), t = .int .u64 y ∧ y ≤ g ∧ y < 2097152 ∧ AppTo B w wr v b xs dn ∧ dn ++ uv y = uv x ∧ dn.length ≤ 3)
  case atStart => exact ⟨x, [], rfl, Nat.le_refl _, hx, AppTo.refl hown, rfl, by simp⟩
  case round =>
    obtain ⟨y, dn, rfl, hy, hy2, A, hdn, hdl⟩ := hrel
    have Hdn : Hid (dn ++ uv y = uv x) := hdn
    clear hdn
    have hOwn := A.own
    have hBr : B ≤ wr.heap.size := by have := A.below.size; omega
    by_cases hlt : 128 ≤ y
    · have hor := or128 y
      have hor' : bits .or .u8 (IntKind.u8.wrap (y : Int)) 128 = (y : Int) % 128 + 128 := by rw [IntKind.wrap_u8]; exact hor
      go_wp2_with (at_builtin; refine wpList_app rfl _ _ 22 rfl Try.underlying22 Try.info5 B u0 (xs ++ dn) rfl (hOwn.alloc _) (some ⟨wr.heap.size, 0, none⟩) 1 1 [(y : Int) % 128 + 128] rfl rfl (by intro h; cases h) (one_new wr _) ?hb1 ?hB1 ?_)
      case hb1 => simp; omega
      case hB1 => simp; omega
      intro v' w' A'
      have A2 := A.trans (A'.afterAlloc hBr)
      clear A' A hOwn
      go_wp2
      go_roundg (y / 128)
      case rel =>
        refine ⟨y / 128, dn ++ [(y : Int) % 128 + 128], by simp, Nat.le_refl _, by omega, A2, ?_, ?_⟩
        · rw [← Hdn.out, uv_more hlt hy2]; simp
        · have h1 := congrArg List.length Hdn.out
          rw [uv_more hlt hy2] at h1
          have h2 := uv_len x
          simp at h1 ⊢
          omega
      case measure => omega
    · have hw : IntKind.u8.wrap (y : Int) = (y : Int) := by rw [IntKind.wrap_u8]; omega
      go_wp2_with (at_builtin; refine wpList_app rfl _ _ 22 rfl Try.underlying22 Try.info5 B u0 (xs ++ dn) rfl (hOwn.alloc _) (some ⟨wr.heap.size, 0, none⟩) 1 1 [(y : Int)] rfl rfl (by intro h; cases h) (one_new wr _) ?hb2 ?hB2 ?_)
      case hb2 => simp; omega
      case hB2 => simp; omega
      intro v' w' A'
      have A2 := A.trans (A'.afterAlloc hBr)
      have hu := Hdn.out
      rw [uv_last (by omega)] at hu
      rw [hu] at A2
      clear A' A hOwn hu
      go_wp2
      go_ret
      exact ⟨v', rfl, A2⟩

/-- A slice that leads to the bytes L. -/
structure BL (w : World) (s : Option Addr) (L : List Int) : Prop where
  none : s = none → L = []
  cell : ∀ x, s = some x → ∀ j u, (bcells L)[j]? = some u → w.cell? (x.add j) = some u

theorem BL.kept {w w' : World} {s : Option Addr} {L : List Int} (h : BL w s L) (hc : ∀ a v, w.cell? a = some v → (∃ x j, s = some x ∧ j < L.length ∧ a = x.add j) → w'.cell? a = some v) : BL w' s L :=
  ⟨h.none, fun x hx j u hu => hc _ _ (h.cell x hx j u hu) ⟨x, j, hx, by simpa [bcells_length] using (List.getElem?_eq_some_iff.1 hu).1, rfl⟩⟩

theorem BL.later {w w' : World} {s : Option Addr} {L : List Int} (h : BL w s L) (hb : Below w.heap.size w w') : BL w' s L :=
  h.kept fun a v ha _ => by rw [hb.cell (World.block_lt_of_cell? _ _ ha)]; exact ha

theorem BL.alloc {w : World} {s : Option Addr} {L : List Int} (h : BL w s L) (o : Obj) : BL (w.alloc o) s L := h.later ((Below.refl _ _).alloc (Nat.le_refl _) _)

/-- The bytes L at the head of a block that v does not lie in. -/
structure Key (w : World) (v : Value) (s : Option Addr) (L : List Int) : Prop where
  bl : BL w s L
  apart : ∀ x, s = some x → ∃ g, x = ⟨g, 0, none⟩ ∧ g < w.heap.size ∧ v.ownBlock ≠ some g

theorem Key.alloc {w : World} {v : Value} {s : Option Addr} {L : List Int} (h : Key w v s L) (o : Obj) : Key (w.alloc o) v s L :=
  ⟨h.bl.alloc o, fun x hx => by obtain ⟨g, h1, h2, h3⟩ := h.apart x hx; exact ⟨g, h1, by simp; omega, h3⟩⟩

/-- Behind an append to v. -/
theorem AppTo.key {B : Nat} {w w' : World} {v v' : Value} {xs ys L : List Int} {s : Option Addr} (A : AppTo B w w' v v' xs ys) (h : Key w v s L) : Key w' v' s L := by
  refine ⟨h.bl.kept fun a u ha hx => ?_, fun x hx => ?_⟩
  · obtain ⟨x, j, hx, hj, rfl⟩ := hx
    obtain ⟨g, rfl, hg, hne⟩ := h.apart x hx
    have hlt := World.block_lt_of_cell? _ _ ha
    rw [Addr.add_lit] at ha hlt ⊢
    rw [A.cell _ _ hlt (fun e => (hne e).elim)]
    exact ha
  · obtain ⟨g, h1, h2, h3⟩ := h.apart x hx
    have hs := A.below.size
    refine ⟨g, h1, by omega, ?_⟩
    rcases A.blk with e | ⟨g', e, hg'⟩
    · rw [e]; exact h3
    · rw [e]; intro e2; simp at e2; omega

set_option maxRecDepth 100000 in
set_option maxHeartbeats 1000000 in
/-- appendKey(b, key): the key's length as a varint, then the key. -/
theorem key_any (B : Nat) (v : Value) (xs L : List Int) (s : Option Addr) (c : Nat) (w : World) (hown : Own B w v xs) (hk : Key w v s L)
    (hb : xs.length ≤ 1073741000) (hL : L.length ≤ 1048576) (hb2 : xs.length + L.length ≤ 1073741000) (hB : B ≤ w.heap.size) :
    Calls Try.prog 55 #[v, .slice s L.length c] w fun e w' => ∃ v', e = .returned v' ∧ AppTo B w w' v v' xs (uv L.length ++ L) := by
  have hw : IntKind.u64.wrap (L.length : Int) = (L.length : Int) := by rw [IntKind.wrap_u64]; omega
  have hul := uv_len L.length
  generalize hN : L.length = N at *
  have HN : Hid (L.length = N) := hN
  clear hN
  go_enter Try.func55, Try.ntmps55
  go_wp2_with fail
  refine (uvarint_any B v xs N _ hown (by omega) (by omega) hB).mono ?_
  rintro e w1 ⟨v1, rfl, A⟩
  have hk1 := (A.key hk).bl
  have hO1 := A.own
  have hnone : s = none → N = 0 := fun e => by rw [← HN.out, hk.bl.none e]; rfl
  have Hnone : Hid (s = none → N = 0) := hnone
  clear hnone
  go_wp2_with (at_builtin; refine wpList_app rfl _ _ 22 rfl Try.underlying22 Try.info5 B v1 (xs ++ uv N) rfl hO1 s N c L rfl HN.out Hnone.out hk1.cell ?hb1 ?hB1 ?_)
  case hb1 => simp; omega
  case hB1 => have := A.below.size; omega
  intro v' w' A'
  have A2 := A.trans A'
  clear A A' hO1 hk1
  go_wp2
  go_ret
  exact ⟨v', rfl, A2⟩

/-- A boxed struct in block b, which v does not lie in. -/
structure Boxed (w : World) (v : Value) (b : Nat) (cs : List Value) : Prop where
  cell : ∀ j u, cs[j]? = some u → w.cell? ⟨b, j, none⟩ = some u
  lt : b < w.heap.size
  apart : v.ownBlock ≠ some b

theorem AppTo.boxed {B : Nat} {w w' : World} {v v' : Value} {xs ys : List Int} {b : Nat} {cs : List Value} (A : AppTo B w w' v v' xs ys) (h : Boxed w v b cs) : Boxed w' v' b cs := by
  have hs := A.below.size
  have hl := h.lt
  refine ⟨fun j u hu => ?_, by omega, ?_⟩
  · rw [A.cell _ _ h.lt (fun e => (h.apart e).elim)]; exact h.cell j u hu
  · rcases A.blk with e | ⟨g', e, hg'⟩
    · rw [e]; exact h.apart
    · rw [e]; intro e2; simp at e2; omega

theorem Own.block_lt {B : Nat} {w : World} {v : Value} {xs : List Int} (h : Own B w v xs) : v.ownBlock ≠ some w.heap.size := by
  rcases h with ⟨rfl, _⟩ | ⟨g, cap, cur, rfl, _, hg, _⟩
  · simp [Value.ownBlock]
  · have := (Array.getElem?_eq_some_iff.1 hg).1
    simp [Value.ownBlock]; omega

theorem boxed_new {B : Nat} {w : World} {v : Value} {xs : List Int} (h : Own B w v xs) (cs : List Value) (t : TypeId) : Boxed (w.alloc (.cells cs.toArray t)) v w.heap.size cs :=
  ⟨fun j u hu => by rw [World.cell?_alloc_at _ _ _ _ rfl]; simpa using hu, by simp, h.block_lt⟩

/-- What appendRangeHead writes. -/
def rangeHead (after hasEnd more : Bool) (S E L : List Int) : List Int :=
  [flagB after] ++ ((uv S.length ++ S) ++ ([flagB hasEnd] ++ ((if hasEnd then uv E.length ++ E else []) ++ ([flagB more] ++ (if more then uv L.length ++ L else [])))))

set_option maxRecDepth 100000 in
set_option maxHeartbeats 2000000 in
theorem head_any (B : Nat) (v : Value) (P S E L : List Int) (sS sE sL : Option Addr) (cS cE cL : Nat) (after hasEnd more : Bool) (w : World) (hown : Own B w v P) (kS : Key w v sS S) (kE : Key w v sE E) (kL : Key w v sL L)
    (hb : P.length + S.length + E.length + L.length ≤ 1048576) (hB : B ≤ w.heap.size) :
    Calls Try.prog 45 #[v, .agg #[.slice sS S.length cS, .bool after, .slice sE E.length cE, .bool hasEnd], .bool more, .slice sL L.length cL] w fun e w' => ∃ v', e = .returned v' ∧ AppTo B w w' v v' P (rangeHead after hasEnd more S E L) := by
  have hl1 := uv_len S.length
  have hl2 := uv_len E.length
  go_enter Try.func45, Try.ntmps45
  go_wp2_with fail
  have hO0 := hown.alloc (.cells #[.slice sS S.length cS, .bool after, .slice sE E.length cE, .bool hasEnd] 38)
  have X0 := boxed_new hown [.slice sS S.length cS, .bool after, .slice sE E.length cE, .bool hasEnd] 38
  have C0 := AppTo.refl hO0
  have kS0 := kS.alloc (.cells #[.slice sS S.length cS, .bool after, .slice sE E.length cE, .bool hasEnd] 38)
  have kE0 := kE.alloc (.cells #[.slice sS S.length cS, .bool after, .slice sE E.length cE, .bool hasEnd] 38)
  have kL0 := kL.alloc (.cells #[.slice sS S.length cS, .bool after, .slice sE E.length cE, .bool hasEnd] 38)
  have hB0 : B ≤ (w.alloc (.cells #[.slice sS S.length cS, .bool after, .slice sE E.length cE, .bool hasEnd] 38)).heap.size := by simp; omega
  have hfin : ∀ {w' v' ys}, AppTo B (w.alloc (.cells #[.slice sS S.length cS, .bool after, .slice sE E.length cE, .bool hasEnd] 38)) w' v v' P ys → ys = rangeHead after hasEnd more S E L → AppTo B w w' v v' P (rangeHead after hasEnd more S E L) := fun A e => e ▸ A.afterAlloc hB
  have hz : (w.alloc (.cells #[.slice sS S.length cS, .bool after, .slice sE E.length cE, .bool hasEnd] 38)).heap.size = w.heap.size + 1 := by simp
  generalize w.alloc (.cells #[.slice sS S.length cS, .bool after, .slice sE E.length cE, .bool hasEnd] 38) = w0 at *
  have Hfin := @hfin
  clear hfin kS kE kL hown hz
  refine (flag_any B v P after w0 hO0 (by omega) hB0).mono ?_
  rintro e w1 ⟨v1, rfl, A⟩
  have X1 := A.boxed X0
  have kS1 := A.key kS0
  have kE1 := A.key kE0
  have kL1 := A.key kL0
  have C1 := A
  have hB1 : B ≤ w1.heap.size := by have := A.below.size; omega
  clear A X0 kS0 kE0 kL0 C0 hO0 hB0
  have q0 := X1.cell 0 _ rfl
  go_wp2_with fail
  refine (key_any B v1 (P ++ [flagB after]) S sS cS w1 C1.own kS1 (by simp; omega) (by omega) (by simp; omega) hB1).mono ?_
  rintro e w2 ⟨v2, rfl, A⟩
  have X2 := A.boxed X1
  have kE2 := A.key kE1
  have kL2 := A.key kL1
  have C2 := C1.trans A
  have hB2 : B ≤ w2.heap.size := by have := A.below.size; omega
  clear A X1 kS1 kE1 kL1 C1 hB1 q0
  have q3 := X2.cell 3 _ rfl
  go_wp2_with fail
  refine (flag_any B v2 _ hasEnd w2 C2.own (by simp; omega) hB2).mono ?_
  rintro e w3 ⟨v3, rfl, A⟩
  have X3 := A.boxed X2
  have kE3 := A.key kE2
  have kL3 := A.key kL2
  have C3 := C2.trans A
  have hB3 : B ≤ w3.heap.size := by have := A.below.size; omega
  clear A X2 kE2 kL2 C2 hB2 q3
  have q3 := X3.cell 3 _ rfl
  have q2 := X3.cell 2 _ rfl
  cases hasEnd
  · go_wp2_with fail
    refine (flag_any B v3 _ more w3 C3.own (by simp; omega) hB3).mono ?_
    rintro e w5 ⟨v5, rfl, A⟩
    have kL5 := A.key kL3
    have C5 := C3.trans A
    have hB5 : B ≤ w5.heap.size := by have := A.below.size; omega
    clear A
    cases more
    · go_wp2_with fail
      go_ret
      exact ⟨v5, rfl, Hfin C5 (by simp [rangeHead])⟩
    · go_wp2_with fail
      refine (key_any B v5 _ L sL cL w5 C5.own kL5 (by simp; omega) (by omega) (by simp; omega) hB5).mono ?_
      rintro e w6 ⟨v6, rfl, A⟩
      have C6 := C5.trans A
      clear A
      go_wp2_with fail
      go_ret
      exact ⟨v6, rfl, Hfin C6 (by simp [rangeHead])⟩
  · go_wp2_with fail
    refine (key_any B v3 _ E sE cE w3 C3.own kE3 (by simp; omega) (by omega) (by simp; omega) hB3).mono ?_
    rintro e w4 ⟨v4, rfl, A⟩
    have kL4 := A.key kL3
    have C4 := C3.trans A
    have hB4 : B ≤ w4.heap.size := by have := A.below.size; omega
    clear A
    go_wp2_with fail
    refine (flag_any B v4 _ more w4 C4.own (by simp; omega) hB4).mono ?_
    rintro e w5 ⟨v5, rfl, A⟩
    have kL5 := A.key kL4
    have C5 := C4.trans A
    have hB5 : B ≤ w5.heap.size := by have := A.below.size; omega
    clear A
    cases more
    · go_wp2_with fail
      go_ret
      exact ⟨v5, rfl, Hfin C5 (by simp [rangeHead])⟩
    · go_wp2_with fail
      refine (key_any B v5 _ L sL cL w5 C5.own kL5 (by simp; omega) (by omega) (by simp; omega) hB5).mono ?_
      rintro e w6 ⟨v6, rfl, A⟩
      have C6 := C5.trans A
      clear A
      go_wp2_with fail
      go_ret
      exact ⟨v6, rfl, Hfin C6 (by simp [rangeHead])⟩

set_option maxRecDepth 100000 in
set_option maxHeartbeats 1000000 in
/-- ZZAppendRangeHead hands it through. -/
theorem zzhead_any (B : Nat) (v : Value) (P S E L : List Int) (sS sE sL : Option Addr) (cS cE cL : Nat) (after hasEnd more : Bool) (w : World) (hown : Own B w v P) (kS : Key w v sS S) (kE : Key w v sE E) (kL : Key w v sL L)
    (hb : P.length + S.length + E.length + L.length ≤ 1048576) (hB : B ≤ w.heap.size) :
    Calls Try.prog 22 #[v, .agg #[.slice sS S.length cS, .bool after, .slice sE E.length cE, .bool hasEnd], .bool more, .slice sL L.length cL] w fun e w' => ∃ v', e = .returned v' ∧ AppTo B w w' v v' P (rangeHead after hasEnd more S E L) := by
  go_enter Try.func22, Try.ntmps22
  go_wp2_with fail
  refine (head_any B v P S E L sS sE sL cS cE cL after hasEnd more _ (hown.alloc _) (kS.alloc _) (kE.alloc _) (kL.alloc _) hb (by simp; omega)).mono ?_
  rintro e w1 ⟨v1, rfl, A⟩
  have A1 := A.afterAlloc hB
  clear A
  go_wp2_with fail
  go_ret
  exact ⟨v1, rfl, A1⟩

end Go.Proofs.Qxb6003417a
