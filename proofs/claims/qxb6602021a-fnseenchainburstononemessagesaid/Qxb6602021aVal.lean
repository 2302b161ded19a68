import Derived.Test.Qxb6602021aNext
namespace Go.Proofs.Qxb6602021a
open Go.ChangeShapes Go.WideShapes Go.ChangeAt Go.RowKit
set_option linter.unusedVariables false
set_option linter.unusedSimpArgs false

theorem setRow_alloc (w : World) (cur cs : Array Value) (t : TypeId) : (w.alloc (.cells cur t)).setRow w.heap.size cs = w.alloc (.cells cs t) := by
  simp only [World.setRow, World.alloc]
  congr 1
  apply Array.ext
  · simp
  · intro i h1 h2
    simp only [Array.getElem_modify, Array.getElem_push]
    split
    · subst_vars; simp
    · split
      · rfl
      · rename_i a b; simp at h1; omega

/-- A whole row read, guarded or not. -/
theorem wpList_row_load {P : Program} {ops : Array Oper} {rest : List Oper} {o : Oper} {a : Act} {w : World} {Q : Exit → Act → World → Prop} (hw : Region.wanted o (yielded ops a.tmps) = true) (ty : TypeId) (x : Operand) (ho : o.op = .load ty x)
    (g : Nat) (hx : a.eval x = .pointer (some ⟨g, 0, none⟩)) (t : TypeId) (cs : Array Value) (d : TypeDesc) (hg : Hid (w.heap[g]? = some (.cells cs t (0, 0))))
    (hu : P.underlying ty = some d) (hd : (match d with | .struct _ | .array _ _ => true | _ => false) = true) (hi : (P.info? ty).map (·.size) = some cs.size)
    (h : wpList P ops Q rest (a.put o.dst (.agg cs)) w) : wpList P ops Q (o :: rest) a w :=
  BigFrame.wpList_want hw fun _ hK => wp_load_row ty x ho g hx t cs (0, 0) d hg.out hu hd hi (hK _ _ h)

/-- A whole row stored into a variable that was laid just before. -/
theorem wpList_row_new {P : Program} {ops : Array Oper} {rest : List Oper} {o : Oper} {a : Act} {W : World} {Q : Exit → Act → World → Prop} (hw : Region.wanted o (yielded ops a.tmps) = true) (ty : TypeId) (x y : Operand) (ho : o.op = .store ty x y)
    (w : World) (old : Array Value) (t : TypeId) (hW : W = w.alloc (.cells old t)) (cells : Array Value) (g : Nat) (hgz : w.heap.size = g) (hx : a.eval x = .pointer (some ⟨g, 0, none⟩)) (hy : a.eval y = .agg cells)
    (hi : (P.info? ty).map (·.size) = some cells.size) (hold : old.size = cells.size) (h1 : Hid (cells.all (·.oneCell') = true))
    (h : wpList P ops Q rest (a.put o.dst undef) (w.alloc (.cells cells t))) : wpList P ops Q (o :: rest) a W := by
  subst hW
  subst hgz
  refine BigFrame.wpList_want hw fun _ hK => wp_store_row ty x y ho w.heap.size cells hx hy t old (heap_alloc_new w _) hi hold h1.out (hK _ _ ?_)
  rw [setRow_alloc]; exact h

/-- A whole row stored into a variable that is known. -/
theorem wpList_row_store {P : Program} {ops : Array Oper} {rest : List Oper} {o : Oper} {a : Act} {w : World} {Q : Exit → Act → World → Prop} (hw : Region.wanted o (yielded ops a.tmps) = true) (ty : TypeId) (x y : Operand) (ho : o.op = .store ty x y)
    (g : Nat) (cells : Array Value) (hx : a.eval x = .pointer (some ⟨g, 0, none⟩)) (hy : a.eval y = .agg cells) (t : TypeId) (old : Array Value) (hg : Hid (w.heap[g]? = some (.cells old t (0, 0))))
    (hi : (P.info? ty).map (·.size) = some cells.size) (hold : old.size = cells.size) (h1 : Hid (cells.all (·.oneCell') = true))
    (h : ∀ w', Hid (w'.heap[g]? = some (.cells cells t (0, 0))) → Below g w w' → wpList P ops Q rest (a.put o.dst undef) w') : wpList P ops Q (o :: rest) a w :=
  BigFrame.wpList_want hw fun _ hK => wp_store_row ty x y ho g cells hx hy t old hg.out hi hold h1.out (hK _ _ (h _ (setRow_heap _ _ _ _ t _ hg.out) (below_row (Below.refl g w) (Nat.le_refl _) _)))

theorem NextIs.length {A R : List Int} {b : Bool} (h : NextIs A R b) : R.length = 16 := by
  rcases h with ⟨k, _, _, _, rfl, _⟩ | ⟨_, rfl, _⟩
  · simp [low_length]
  · simp

set_option maxRecDepth 100000 in
set_option maxHeartbeats 1000000 in
theorem zznext_any (A : List Int) (X : Array Value) (w : World) (hX : Hid (X = (bcells A).toArray)) (ha : IsBytes 16 A) :
    Calls Try.prog 7 #[.agg X] w fun e w' => ∃ R b, e = .returned (.tuple #[.agg (bcells R).toArray, .bool b]) ∧ NextIs A R b ∧ Below w.heap.size w w' := by
  have hsz : X.size = 16 := by rw [hX.out, List.size_toArray, bcells_length]; exact ha.1
  have Hsz : Hid (X.size = 16) := hsz
  clear hsz
  have h0 : Hid (((w.alloc (.cells X 23)).alloc (.cells (bcells (List.replicate 16 0)).toArray 23)).heap[w.heap.size]? = some (.cells X 23 (0, 0))) := heap_alloc2_old w _ _
  go_enter Try.func7, Try.ntmps7
  go_wp2_with (refine wpList_row_load rfl 23 (.tmp 1) rfl w.heap.size rfl 23 X _ h0 Try.underlying23 rfl (Try.row23 _ Hsz.out) ?_)
  refine (next_any A X _ hX ha).mono ?_
  rintro e w1 ⟨R, b, rfl, N, hb⟩
  have h1 : Hid (w1.heap[w.heap.size + 1]? = some (.cells (bcells (List.replicate 16 0)).toArray 23 (0, 0))) := by
    show _ = _
    rw [hb.block _ (by simp)]; exact heap_alloc2_new w _ _
  have hbel : Below w.heap.size w w1 := (((Below.refl _ _).alloc (Nat.le_refl _) _).alloc (by simp) _).trans (hb.mono (by simp; omega))
  have hR : Hid ((bcells R).toArray.size = 16) := by show _ = _; rw [List.size_toArray, bcells_length]; exact N.length
  have hall : Hid ((bcells R).toArray.all (·.oneCell') = true) := bcells_all R
  clear hb h0
  go_wp2_with (refine wpList_row_store rfl 23 (.tmp 2) (.tmp 6) rfl (w.heap.size + 1) _ rfl rfl 23 _ h1 (Try.row23 _ hR.out) (by rw [hR.out]; rfl) hall ?_)
  intro w2 h2 hb2
  have hbel2 := hbel.trans (hb2.mono (by omega))
  clear hb2 h1 hbel
  go_wp2
  refine bodyPost_ret (results_next rfl _ _ (w.heap.size + 1) _ (.bool b) rfl rfl h2.out hR.out) rfl ?_
  exact ⟨R, b, rfl, N, hbel2⟩

/-! ### The plain law: a row of bytes as a number -/
def val : List Int → Int
  | [] => 0
  | a :: l => a * 256 ^ l.length + val l

theorem val_bd : ∀ (A : List Int), (∀ x ∈ A, 0 ≤ x ∧ x ≤ 255) → 0 ≤ val A ∧ val A < 256 ^ A.length
  | [], _ => by simp [val]
  | a :: l, h => by
    have ih := val_bd l (fun x hx => h x (by simp [hx]))
    have ha := h a (by simp)
    have hp : (0 : Int) < 256 ^ l.length := Int.pow_pos (by omega)
    simp only [val, List.length_cons, Int.pow_succ]
    have h1 : 0 ≤ a * 256 ^ l.length := Int.mul_nonneg ha.1 (by omega)
    have h2 : a * 256 ^ l.length ≤ 255 * 256 ^ l.length := Int.mul_le_mul_of_nonneg_right ha.2 (by omega)
    omega

theorem cmp_val : ∀ (A B : List Int), A.length = B.length → (∀ x ∈ A, 0 ≤ x ∧ x ≤ 255) → (∀ x ∈ B, 0 ≤ x ∧ x ≤ 255) →
    (val A < val B ∧ cmpL A B = -1) ∨ (val A = val B ∧ cmpL A B = 0 ∧ A = B) ∨ (val B < val A ∧ cmpL A B = 1)
  | [], [], _, _, _ => .inr (.inl ⟨rfl, rfl, rfl⟩)
  | [], _ :: _, h, _, _ => by simp at h
  | _ :: _, [], h, _, _ => by simp at h
  | a :: l, b :: m, h, ha, hb => by
    have hlen : l.length = m.length := by simpa using h
    have ih := cmp_val l m hlen (fun x hx => ha x (by simp [hx])) (fun x hx => hb x (by simp [hx]))
    have v1 := val_bd l (fun x hx => ha x (by simp [hx]))
    have v2 := val_bd m (fun x hx => hb x (by simp [hx]))
    simp only [val, cmpL, hlen] at *
    have hp : (0 : Int) < 256 ^ m.length := Int.pow_pos (by omega)
    generalize (256 : Int) ^ m.length = p at *
    rcases (show a < b ∨ b < a ∨ a = b by omega) with h1 | h1 | h1
    · left
      have : (a + 1) * p ≤ b * p := Int.mul_le_mul_of_nonneg_right (by omega) (by omega)
      rw [Int.add_mul] at this
      rw [if_pos h1]
      exact ⟨by omega, rfl⟩
    · right; right
      have : (b + 1) * p ≤ a * p := Int.mul_le_mul_of_nonneg_right (by omega) (by omega)
      rw [Int.add_mul] at this
      rw [if_neg (by omega), if_pos h1]
      exact ⟨by omega, rfl⟩
    · subst h1
      rw [if_neg (by omega), if_neg (by omega)]
      rcases ih with ⟨i1, i2⟩ | ⟨i1, i2, i3⟩ | ⟨i1, i2⟩
      · exact .inl ⟨by omega, i2⟩
      · exact .inr (.inl ⟨by omega, i2, by rw [i3]⟩)
      · exact .inr (.inr ⟨by omega, i2⟩)

theorem val_append : ∀ (A B : List Int), val (A ++ B) = val A * 256 ^ B.length + val B
  | [], B => by simp [val]
  | a :: l, B => by
    have ih := val_append l B
    simp only [List.cons_append, val, ih, List.length_append, Int.pow_add]
    rw [Int.add_mul, Int.mul_assoc]
    omega

theorem val_rep0 (n : Nat) : val (List.replicate n 0) = 0 := by
  induction n with
  | zero => rfl
  | succ n ih => simp [List.replicate_succ, val, ih]

theorem val_rep255 (n : Nat) : val (List.replicate n 255) = 256 ^ n - 1 := by
  induction n with
  | zero => rfl
  | succ n ih => simp only [List.replicate_succ, val, ih, List.length_replicate, Int.pow_succ]; omega

/-- next adds one. -/
theorem next_val {A R : List Int} {b : Bool} (ha : IsBytes 16 A) (h : NextIs A R b) : IsBytes 16 R ∧ ((b = true ∧ val R = val A + 1) ∨ (b = false ∧ val A = 256 ^ 16 - 1 ∧ R = List.replicate 16 0)) := by
  rcases h with ⟨k, hk, h1, h2, h3, h4⟩ | ⟨h1, h2, h3⟩
  · have hA : A = A.take k ++ (A.getD k 0 :: List.replicate (15 - k) 255) := by
      apply List.ext_getElem?
      intro i
      have hl := ha.1
      by_cases hi : i < k
      · rw [List.getElem?_append_left (by simp; omega), List.getElem?_take, if_pos hi]
      · rw [List.getElem?_append_right (by simp; omega)]
        simp only [List.length_take]
        rw [show min k A.length = k by omega]
        by_cases e : i = k
        · subst e; simp [show i < A.length by omega]
        · rw [show i - k = (i - k - 1) + 1 by omega, List.getElem?_cons_succ, List.getElem?_replicate]
          by_cases h16 : i < 16
          · rw [if_pos (by omega)]
            have := h2 i (by omega) h16
            rw [List.getElem?_eq_getElem (by omega)]
            simpa [show i < A.length by omega] using this
          · rw [if_neg (by omega), List.getElem?_eq_none (by omega)]
    have hR : R = A.take k ++ ((A.getD k 0 + 1) :: List.replicate (15 - k) 0) := by
      rw [h3]
      apply List.ext_getElem?
      intro i
      have hl := ha.1
      rw [List.getElem?_set, low_length]
      by_cases e : k = i
      · subst e
        rw [if_pos rfl, if_pos hk, List.getElem?_append_right (by simp; omega)]
        simp only [List.length_take]
        rw [show k - min k A.length = 0 by omega]; rfl
      · rw [if_neg e]
        by_cases h16 : i < 16
        · by_cases hi : i < k
          · rw [List.getElem?_append_left (by simp; omega), List.getElem?_take, if_pos hi]
            simp [low, h16, show i < k + 1 by omega, show i < A.length by omega]
          · rw [List.getElem?_append_right (by simp; omega)]
            simp only [List.length_take]
            rw [show i - min k A.length = (i - k - 1) + 1 by omega, List.getElem?_cons_succ, List.getElem?_replicate, if_pos (by omega)]
            simp [low, h16, show ¬ i < k + 1 by omega]
        · rw [List.getElem?_eq_none (by rw [low_length]; omega), List.getElem?_eq_none (by simp; omega)]
    have hg := ha.get k
    have hby : IsBytes 16 R := by
      refine ⟨by rw [hR]; have := ha.1; simp; omega, ?_⟩
      rw [hR]
      intro x hx
      rcases List.mem_append.1 hx with hx | hx
      · exact ha.2 x (List.mem_of_mem_take hx)
      · rcases List.mem_cons.1 hx with rfl | hx
        · omega
        · have := List.eq_of_mem_replicate hx; omega
    refine ⟨hby, .inl ⟨h4, ?_⟩⟩
    rw [hR]
    conv => rhs; rw [hA]
    simp only [val_append, val, List.length_cons, List.length_replicate, val_rep0, val_rep255, Int.add_mul]
    omega
  · have hA : A = List.replicate 16 255 := by
      apply List.ext_getElem?
      intro i
      have hl := ha.1
      by_cases hi : i < 16
      · have := h1 i hi
        rw [List.getElem?_eq_getElem (by omega), List.getElem?_replicate, if_pos hi]
        simpa [show i < A.length by omega] using this
      · rw [List.getElem?_eq_none (by omega), List.getElem?_eq_none (by simp; omega)]
    refine ⟨⟨by rw [h2]; simp, fun x hx => by rw [h2] at hx; have := List.eq_of_mem_replicate hx; omega⟩, .inr ⟨h3, by rw [hA, val_rep255], h2⟩⟩
end Go.Proofs.Qxb6602021a
