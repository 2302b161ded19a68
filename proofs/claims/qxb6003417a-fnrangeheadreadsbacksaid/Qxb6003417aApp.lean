/- 'append' on a slice of bytes that lies at the head of a block of its own: what is appended, and what of the old memory stays. -/
import Derived.Test.Qxb6003417aBase
namespace Go.Proofs.Qxb6003417a
open Go.ChangeShapes Go.WideShapes Go.ChangeAt Go.RowKit
set_option linter.unusedVariables false
set_option linter.unusedSimpArgs false

/-- The bytes xs as cells. -/
def bcells (xs : List Int) : List Value := xs.map (Value.int .u8)

theorem bcells_length (xs : List Int) : (bcells xs).length = xs.length := by simp [bcells]
theorem bcells_append (xs ys : List Int) : bcells (xs ++ ys) = bcells xs ++ bcells ys := by simp [bcells]
theorem bcells_one (xs : List Int) : ∀ u ∈ bcells xs, u.oneCell' = true := ints_oneCell _ _

/-- v is nil and xs empty; or v begins at the head of block g, from B on, whose first cells are xs. -/
def Own (B : Nat) (w : World) (v : Value) (xs : List Int) : Prop :=
  (v = .slice none 0 0 ∧ xs = []) ∨
  ∃ g cap cur, v = .slice (some ⟨g, 0, none⟩) xs.length cap ∧ B ≤ g ∧ w.heap[g]? = some (.cells cur 5 (0, 0)) ∧ xs.length ≤ cap ∧ cur.size = cap ∧ cur.toList.take xs.length = bcells xs

/-- From v in w, holding xs, to v' in w', holding xs ++ ys: nothing old turns but v's block beyond xs. -/
structure AppTo (B : Nat) (w w' : World) (v v' : Value) (xs ys : List Int) : Prop where
  own : Own B w' v' (xs ++ ys)
  blk : v'.ownBlock = v.ownBlock ∨ ∃ g, v'.ownBlock = some g ∧ w.heap.size ≤ g
  cell : ∀ b o, b < w.heap.size → (v.ownBlock = some b → o < xs.length) → w'.cell? ⟨b, o, none⟩ = w.cell? ⟨b, o, none⟩
  below : Below B w w'

theorem AppTo.refl {B : Nat} {w : World} {v : Value} {xs : List Int} (h : Own B w v xs) : AppTo B w w v v xs [] :=
  ⟨by simpa using h, .inl rfl, fun _ _ _ _ => rfl, Below.refl _ _⟩

theorem AppTo.trans {B : Nat} {w w1 w2 : World} {v v1 v2 : Value} {xs ys zs : List Int} (h : AppTo B w w1 v v1 xs ys) (k : AppTo B w1 w2 v1 v2 (xs ++ ys) zs) : AppTo B w w2 v v2 xs (ys ++ zs) := by
  refine ⟨by rw [← List.append_assoc]; exact k.own, ?_, ?_, h.below.trans k.below⟩
  · have hs := h.below.size
    rcases k.blk with e | ⟨g, e, hg⟩
    · rw [e]; exact h.blk
    · exact .inr ⟨g, e, by omega⟩
  · intro b o hb ho
    have hs := h.below.size
    rw [k.cell b o (by omega) ?_]
    · exact h.cell b o hb ho
    · intro e
      rcases h.blk with e1 | ⟨g, e1, hg⟩
      · rw [e1] at e; have := ho e; simp; omega
      · rw [e1] at e; simp at e; omega

/-- A new block ahead of an append. -/
theorem AppTo.afterAlloc {B : Nat} {w w' : World} {v v' : Value} {xs ys : List Int} {o : Obj} (hB : B ≤ w.heap.size) (k : AppTo B (w.alloc o) w' v v' xs ys) : AppTo B w w' v v' xs ys := by
  refine ⟨k.own, ?_, ?_, ((Below.refl B w).alloc hB o).trans k.below⟩
  · rcases k.blk with e | ⟨g, e, hg⟩
    · exact .inl e
    · exact .inr ⟨g, e, by simp at hg; omega⟩
  · intro b o' hb ho
    rw [k.cell b o' (by simp; omega) ho]
    exact World.cell?_alloc_past _ _ _ hb

theorem Own.alloc {B : Nat} {w : World} {v : Value} {xs : List Int} (h : Own B w v xs) (o : Obj) : Own B (w.alloc o) v xs := by
  rcases h with h | ⟨g, cap, cur, hv, hB, hg, r⟩
  · exact .inl h
  · exact .inr ⟨g, cap, cur, hv, hB, by rw [heap_alloc_old _ _ (h := (Array.getElem?_eq_some_iff.1 hg).1)]; exact hg, r⟩

theorem Own.cells {B : Nat} {w : World} {g n cap : Nat} {xs : List Int} (h : Own B w (.slice (some ⟨g, 0, none⟩) n cap) xs) : ∀ j u, (bcells xs)[j]? = some u → w.cell? ((⟨g, 0, none⟩ : Addr).add j) = some u := by
  intro j u hu
  rcases h with ⟨e, _⟩ | ⟨g', cap', cur, hv, hB, hg, h1, h2, h3⟩
  · cases e
  · injection hv with e1 e2 e3
    injection e1 with e1
    injection e1 with e1
    subst e1
    rw [Addr.add_lit, Nat.zero_add, cell_of_row w g j cur 5 (0, 0) hg]
    rw [← h3, List.getElem?_take] at hu
    split at hu
    · simpa using hu
    · cases hu

theorem take_splice (cur news : List Value) (n : Nat) (h : n ≤ cur.length) : (cur.take n ++ news ++ cur.drop (n + news.length)).take (n + news.length) = cur.take n ++ news := by
  rw [List.take_append_of_le_length (by simp; omega), List.take_of_length_le (by simp; omega)]

/-- The builtin append, bytes from an address. -/
theorem run_app {P : Program} (w : World) (t ty : TypeId) (ht : P.underlying t = some (.slice 5)) (hinfo : (P.info? 5).map (fun i => (i.zero, i.size, i.bytes)) = some (some (.int .u8 0), 1, 1))
    (B : Nat) (v : Value) (xs : List Int) (hown : Own B w v xs) (a : Addr) (m c : Nat) (ys : List Int) (hl : ys.length = m) (hnews : ∀ j u, (bcells ys)[j]? = some u → w.cell? (a.add j) = some u)
    (hb : xs.length + m ≤ 1073741824) (hB : B ≤ w.heap.size) :
    ∃ v' w', (Builtin.append_ #[t, t] ty #[v, .slice (some a) m c]).run P w = .ok v' w' ∧ AppTo B w w' v v' xs ys := by
  obtain ⟨i, hi, hz0, hz1, hz2⟩ := info_parts hinfo
  have hlen : (bcells ys).length = m * i.size := by rw [bcells_length, hz1, hl]; omega
  have hgc : ∀ need old, need ≤ grownCap w need old 5 := fun need old => grownCap_ge w need old 5
  rcases hown with ⟨rfl, rfl⟩ | ⟨g, cap, cur, rfl, hBg, hg, hcap, hsz, htk⟩
  · by_cases hm : m = 0
    · subst hm
      obtain rfl : ys = [] := List.eq_nil_of_length_eq_zero hl
      refine ⟨.slice none 0 0, w, ?_, AppTo.refl (.inl ⟨rfl, rfl⟩)⟩
      simp [Builtin.append_, run_underlying ht, sizeOf, typeInfo, hi, Builtin.lenOf, Builtin.firstCells, loadCells, loadCellsFrom]
    · have hr := run_append_nil (P := P) w t ty 5 i _ ht hi hz0 a m c (bcells ys) hlen hnews (by omega) (by omega) (by rw [hz2]; omega)
      refine ⟨_, _, hr, ⟨.inr ⟨w.heap.size, _, _, by rw [List.nil_append, hl], hB, heap_alloc_new w.drew _, by rw [List.nil_append, hl]; exact hgc m 0, ?_, ?_⟩, .inr ⟨w.heap.size, rfl, Nat.le_refl _⟩, ?_, (Below.refl B w).drew.alloc (by simpa using hB) _⟩⟩
      · have := hgc m 0
        simp only [Array.size_append, List.size_toArray, size_zeroCells, bcells_length, Value.cells]
        simp
        omega
      · simp only [Array.toList_append, List.nil_append]
        rw [List.take_append_of_le_length (by simp [bcells_length]), List.take_of_length_le (by simp [bcells_length])]
      · intro b o hb' _
        rw [World.cell?_alloc_past _ _ _ (by simpa using hb')]; rfl
  · by_cases hroom : xs.length + m ≤ cap
    · have hr := run_append_room (P := P) w t ty 5 i ht hi g xs.length cap cur hg a m c (bcells ys) hlen hnews (bcells_one ys) hroom (by rw [hz1, bcells_length, hl]; omega)
      rw [hz1, Nat.mul_one] at hr
      refine ⟨_, _, hr, ⟨.inr ⟨g, cap, _, by rw [List.length_append, hl], hBg, setRow_heap w g cur _ 5 _ hg, by rw [List.length_append, hl]; exact hroom, ?_, ?_⟩, .inl rfl, ?_, below_setRow (Below.refl B w) hBg _⟩⟩
      · simp only [List.size_toArray, List.length_append, List.length_take, List.length_drop, Array.length_toList, bcells_length]
        omega
      · rw [List.length_append, ← bcells_length ys, bcells_append, ← htk]
        exact take_splice _ _ _ (by simp; omega)
      · intro b o hb' ho
        by_cases e : b = g
        · subst e
          have ho' := ho rfl
          rw [cell_setRow_same w b o cur _ 5 (0, 0) hg, cell_of_row w b o cur 5 (0, 0) hg]
          simp only [List.getElem?_toArray, List.append_assoc]
          rw [List.getElem?_append_left (by simp; omega), List.getElem?_take, if_pos ho']
          simp
        · exact cell_setRow_other w g _ _ e
    · have holds : ∀ j u, (bcells xs)[j]? = some u → w.cell? ((⟨g, 0, none⟩ : Addr).add j) = some u :=
        Own.cells (B := B) (n := xs.length) (cap := cap) (.inr ⟨g, cap, cur, rfl, hBg, hg, hcap, hsz, htk⟩)
      have hr := run_append_grow (P := P) w t ty 5 i _ ht hi hz0 ⟨g, 0, none⟩ xs.length cap (bcells xs) (by rw [bcells_length, hz1]; omega) holds a m c (bcells ys) hlen hnews (by omega) (by omega) (by rw [hz2]; exact growslice_fits (by omega) (by omega))
      refine ⟨_, _, hr, ⟨.inr ⟨w.heap.size, _, _, by rw [List.length_append, hl], hB, heap_alloc_new w.drew _, by rw [List.length_append, hl]; exact hgc _ _, ?_, ?_⟩, .inr ⟨w.heap.size, rfl, Nat.le_refl _⟩, ?_, (Below.refl B w).drew.alloc (by simpa using hB) _⟩⟩
      · have := hgc (xs.length + m) cap
        simp only [Array.size_append, List.size_toArray, size_zeroCells, bcells_length, Value.cells]
        simp
        omega
      · simp only [Array.toList_append]
        rw [List.take_append_of_le_length (by simp [bcells_length]), List.take_of_length_le (by simp [bcells_length]), bcells_append]
      · intro b o hb' _
        rw [World.cell?_alloc_past _ _ _ (by simpa using hb')]; rfl

/-- .. of nothing: a nil slice. -/
theorem run_app_none {P : Program} (w : World) (t ty : TypeId) (ht : P.underlying t = some (.slice 5)) (hinfo : (P.info? 5).map (fun i => (i.zero, i.size, i.bytes)) = some (some (.int .u8 0), 1, 1))
    (B : Nat) (v : Value) (xs : List Int) (hown : Own B w v xs) (c : Nat) :
    (Builtin.append_ #[t, t] ty #[v, .slice none 0 c]).run P w = .ok v w := by
  obtain ⟨i, hi, hz0, hz1, hz2⟩ := info_parts hinfo
  rcases hown with ⟨rfl, rfl⟩ | ⟨g, cap, cur, rfl, hBg, hg, hcap, hsz, htk⟩
  · simp [Builtin.append_, run_underlying ht, sizeOf, typeInfo, hi, Builtin.lenOf, Builtin.firstCells]
  · simp [Builtin.append_, run_underlying ht, sizeOf, typeInfo, hi, Builtin.lenOf, Builtin.firstCells, hcap, storeCells]

/-- The law for the walk, whatever the address of what is appended. -/
theorem wpList_app {P : Program} {w : World} {ops : Array Oper} {rest : List Oper} {o : Oper} {a : Act} {Q : Exit → Act → World → Prop} (hgd : o.guard = none) (s x : Operand) (t : TypeId)
    (ho : o.op = .call { callee := .builtin .append, args := #[s, x], argTypes := #[t, t] }) (ht : P.underlying t = some (.slice 5)) (hinfo : (P.info? 5).map (fun i => (i.zero, i.size, i.bytes)) = some (some (.int .u8 0), 1, 1))
    (B : Nat) (v : Value) (xs : List Int) (hs : a.eval s = v) (hown : Own B w v xs) (ao : Option Addr) (m c : Nat) (ys : List Int) (hx : a.eval x = .slice ao m c) (hl : ys.length = m) (hnone : ao = none → m = 0)
    (hnews : ∀ ad, ao = some ad → ∀ j u, (bcells ys)[j]? = some u → w.cell? (ad.add j) = some u) (hb : xs.length + m ≤ 1073741824) (hB : B ≤ w.heap.size)
    (h : ∀ v' w', AppTo B w w' v v' xs ys → wpList P ops Q rest (a.put o.dst v') w') : wpList P ops Q (o :: rest) a w := by
  refine wpList_plain hgd fun K hK => ?_
  cases ao with
  | some ad =>
    obtain ⟨v', w', hr, A⟩ := run_app (P := P) w t o.type ht hinfo B v xs hown ad m c ys hl (hnews ad rfl) hb hB
    unfold Oper.wp
    simp [execOp, ho, resolve, invoke, builtin, hs, hx, hr, Result.andThen]
    exact hK _ _ (h v' w' A)
  | none =>
    obtain rfl := hnone rfl
    obtain rfl : ys = [] := List.eq_nil_of_length_eq_zero hl
    have hr := run_app_none (P := P) w t o.type ht hinfo B v xs hown c
    unfold Oper.wp
    simp [execOp, ho, resolve, invoke, builtin, hs, hx, hr, Result.andThen]
    exact hK _ _ (h v w (AppTo.refl hown))

end Go.Proofs.Qxb6003417a
