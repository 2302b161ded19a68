/- A region that draws its order: first a part that only reads (or calls what only reads), in whatever order; then, each waiting for the one before, the operations that write. -/
import Derived.Deep.Quiet
import Derived.BigQuiet
namespace Go
section
variable {P : Program} {ops : Array Oper} {C : World → Prop} {md : Region.Mode}

/-- The first n of the operations come up in whatever order; then E. -/
def wpAnyE (P : Program) (md : Region.Mode) (ops : Array Oper) (C : World → Prop) (E : Act → Prop) : Nat → Array Bool → Act → Prop
  | 0, _, a => E a
  | n + 1, listed, a => Region.ready md ops listed ≠ [] ∧ ∀ i ∈ Region.ready md ops listed, qOp P ops C i (wpAnyE P md ops C E n (listed.setIfInBounds i true)) a

/-- Operation j waits for operation i, over at most f steps. -/
def depOn (md : Region.Mode) (ops : Array Oper) (i : Nat) : Nat → Nat → Bool
  | 0, j => j == i
  | f + 1, j => j == i || (match ops[j]? with | some o => o.after.any (fun e => Region.binds md e && depOn md ops i f e.on) | none => false)

/-- What has come up: whatever it waits for has come up too. -/
def Shutd (md : Region.Mode) (ops : Array Oper) (listed : Array Bool) : Prop :=
  ∀ j o, listed.getD j false = true → ops[j]? = some o → ∀ e ∈ o.after, Region.binds md e = true → listed.getD e.on false = true

theorem Shutd.not_dep {listed : Array Bool} (h : Shutd md ops listed) {i : Nat} (hi : listed.getD i false = false) : ∀ (f j : Nat), depOn md ops i f j = true → listed.getD j false = false := by
  intro f
  induction f with
  | zero => intro j hj; simp only [depOn, beq_iff_eq] at hj; rw [hj]; exact hi
  | succ f ih =>
    intro j hj
    simp only [depOn, Bool.or_eq_true, beq_iff_eq] at hj
    rcases hj with hj | hj
    · rw [hj]; exact hi
    · cases ho : ops[j]? with
      | none => rw [ho] at hj; cases hj
      | some o =>
        rw [ho] at hj
        simp only [Array.any_eq_true', Bool.and_eq_true] at hj
        obtain ⟨e, he, hb, hd⟩ := hj
        cases hl : listed.getD j false with
        | false => rfl
        | true =>
          have := h j o hl ho e he hb
          rw [ih e.on hd] at this; cases this

/-- Of the first m operations n have not come up yet; none of the others has. -/
structure Front (md : Region.Mode) (ops : Array Oper) (m n : Nat) (listed : Array Bool) : Prop where
  size : listed.size = ops.size
  le : m ≤ ops.size
  rest : ∀ j, m ≤ j → j < ops.size → listed.getD j true = false
  shut : Shutd md ops listed
  rem : ∃ rem : List Nat, rem.Nodup ∧ rem.length = n ∧ (∀ x ∈ rem, x < m) ∧ ∀ j, j < m → (listed.getD j true = false ↔ j ∈ rem)

def allOf (N m : Nat) : Array Bool := ((List.range N).map fun j => decide (j < m)).toArray

/-- Each of the others waits for each of the first m. -/
def frontB (md : Region.Mode) (ops : Array Oper) (m : Nat) : Bool :=
  decide (m ≤ ops.size) && (List.range m).all fun i => (List.range ops.size).all fun j => decide (j < m) || depOn md ops i 8 j

theorem getD_lt {listed : Array Bool} {j : Nat} (h : listed.getD j true = false) : j < listed.size := by
  rcases Nat.lt_or_ge j listed.size with h' | h'
  · exact h'
  · simp [Array.getD, Nat.not_lt.2 h'] at h

theorem getD_both {listed : Array Bool} {j : Nat} (h : listed.getD j true = false) : listed.getD j false = false := by
  have := getD_lt h
  simp [Array.getD, this] at h ⊢; exact h

theorem Front.ready_lt {m n : Nat} {listed : Array Bool} (hB : frontB md ops m = true) (T : Front md ops m (n + 1) listed) {j : Nat} (hj : j ∈ Region.ready md ops listed) : j < m := by
  obtain ⟨rem, hnd, hl, hlt, hiff⟩ := T.rem
  obtain ⟨i, r, rfl⟩ : ∃ i r, rem = i :: r := by cases rem with | nil => simp at hl | cons i r => exact ⟨i, r, rfl⟩
  have him := hlt i (by simp)
  have hif := getD_both ((hiff i him).2 (by simp))
  simp only [frontB, Bool.and_eq_true, decide_eq_true_eq, List.all_eq_true, List.mem_range] at hB
  obtain ⟨h0, o, ho, hall⟩ := mem_ready.1 hj
  have hjs : j < ops.size := (Array.getElem?_eq_some_iff.1 ho).1
  have hd := hB.2 i him j hjs
  simp only [Bool.or_eq_true, decide_eq_true_eq] at hd
  rcases hd with hd | hd
  · exact hd
  · refine Classical.byContradiction fun hge => ?_
    simp only [depOn, Bool.or_eq_true, beq_iff_eq, ho] at hd
    rcases hd with hd | hd
    · omega
    · simp only [Array.any_eq_true', Bool.and_eq_true] at hd
      obtain ⟨e, he, hb, hd⟩ := hd
      have h1 := hall e he hb
      rw [T.shut.not_dep hif 7 e.on hd] at h1; cases h1

theorem Front.step {m n : Nat} {listed : Array Bool} (T : Front md ops m (n + 1) listed) {j : Nat} (hj : j < m) (hrd : j ∈ Region.ready md ops listed) : Front md ops m n (listed.setIfInBounds j true) := by
  obtain ⟨hun, oj, hoj, hall⟩ := mem_ready.1 hrd
  obtain ⟨rem, hnd, hl, hlt, hiff⟩ := T.rem
  have hmem := (hiff j hj).1 hun
  refine ⟨by simpa using T.size, T.le, fun k hk hks => ?_, fun k o hk ho e he hb => ?_, rem.erase j, hnd.erase j, ?_, fun x hx => hlt x (List.mem_of_mem_erase hx), fun k hk => ?_⟩
  · rw [getD_set_ne true (by omega)]; exact T.rest k hk hks
  · by_cases e1 : j = k
    · subst e1
      rw [hoj] at ho
      injection ho with ho
      subst ho
      exact getD_set_true (hall e he hb)
    · rw [getD_set_ne false e1] at hk
      exact getD_set_true (T.shut k o hk ho e he hb)
  · rw [List.length_erase_of_mem hmem]; omega
  · by_cases e : j = k
    · subst e
      have hjs := getD_lt hun
      constructor
      · intro h
        simp [Array.getD, hjs] at h
      · intro h
        exact absurd ((hnd.mem_erase_iff).1 h).1 (by simp)
    · rw [getD_set_ne true e, hiff k hk, hnd.mem_erase_iff]
      exact ⟨fun h => ⟨fun he => e he.symm, h⟩, fun h => h.2⟩

theorem Front.one {m : Nat} {listed : Array Bool} (T : Front md ops m 1 listed) {i j : Nat} (hi : i < m) (hj : j < m) (h1 : listed.getD i true = false) (h2 : listed.getD j true = false) : j = i := by
  obtain ⟨rem, hnd, hl, hlt, hiff⟩ := T.rem
  have a := (hiff i hi).1 h1
  have b := (hiff j hj).1 h2
  cases rem with
  | nil => simp at hl
  | cons x r =>
    cases r with
    | nil => simp at a b; omega
    | cons => simp at hl

theorem Front.end_ {m : Nat} {listed : Array Bool} (T : Front md ops m 0 listed) : listed = allOf ops.size m := by
  obtain ⟨rem, hnd, hl, hlt, hiff⟩ := T.rem
  obtain rfl : rem = [] := List.eq_nil_of_length_eq_zero hl
  apply Array.ext
  · simp [allOf, T.size]
  · intro j h1 h2
    simp only [allOf, List.getElem_toArray, List.getElem_map, List.getElem_range]
    by_cases h : j < m
    · have := hiff j h
      simp [Array.getD, h1] at this
      simp [h, this]
    · have := T.rest j (by omega) (by rw [← T.size]; exact h1)
      simp [Array.getD, h1] at this
      simp [h, this]

theorem Front.start (md : Region.Mode) (m : Nat) (hm : m ≤ ops.size) : Front md ops m m (Array.replicate ops.size false) := by
  refine ⟨by simp, hm, fun j _ h => by simp [Array.getD, h], fun j o h => (by simp [Array.getD] at h), List.range m, List.nodup_range, by simp, fun x hx => by simpa using hx, fun j hj => ?_⟩
  have : j < ops.size := by omega
  simp [Array.getD, this, hj]

theorem wpAny_of_E {E : Act → Prop} {Q : Exit → Act → World → Prop} {m f : Nat} (hB : frontB md ops m = true) (hE : ∀ a w, C w → E a → wpAny P md ops Q f (allOf ops.size m) a w) : ∀ (n : Nat) (listed : Array Bool) (a : Act) (w : World), Front md ops m n listed → C w →
    wpAnyE P md ops C E n listed a → wpAny P md ops Q (n + f) listed a w
  | 0, _, _, _, T, hw, h => by rw [T.end_, Nat.zero_add]; exact hE _ _ hw h
  | n + 1, listed, a, w, T, hw, h => by
    rw [show n + 1 + f = (n + f) + 1 by omega]
    refine ⟨fun h0 => absurd h0 h.1, fun i hi => wpOp_of_qOp hw (fun a' w' hw' h' => wpAny_of_E hB hE n _ a' w' (T.step (T.ready_lt hB hi) hi) hw' h') (h.2 i hi)⟩

theorem wpAnyE_first {E : Act → Prop} {m i : Nat} {oi : Oper} {v : Value} (hB : frontB md ops m = true) (hi : ops[i]? = some oi) (him : i < m) (hsel : ∀ (j : Nat) (o : Oper) cs b, ops[j]? = some o → o.op ≠ .select cs b) :
    ∀ (n : Nat) (listed : Array Bool) (a : Act), Front md ops m (n + 1) listed →
      (∀ j oj, ops[j]? = some oj → j ≠ i → listed.getD j true = false → (∀ e ∈ oj.after, Region.binds md e = true → e.on ≠ i) → oi.apart ops oj = true) →
      i ∈ Region.ready md ops listed → YieldsIn P ops C oi v a →
      wpAnyE P md ops C E n (listed.setIfInBounds i true) (a.put oi.dst v) → wpAnyE P md ops C E (n + 1) listed a := by
  intro n
  induction n with
  | zero =>
    intro listed a T _ hr hy H
    refine ⟨fun h => (by rw [h] at hr; cases hr), fun j hj => ?_⟩
    obtain rfl := T.one him (T.ready_lt hB hj) (mem_ready.1 hr).1 (mem_ready.1 hj).1
    exact hy.qOp hi H
  | succ n ih =>
    intro listed a T hfree hr hy H
    refine ⟨fun h => (by rw [h] at hr; cases hr), fun j hj => ?_⟩
    by_cases hji : j = i
    · subst hji; exact hy.qOp hi H
    · have h1 := H.2 j (ready_mono hj hji)
      obtain ⟨hjun, oj, hoj, hall⟩ := mem_ready.1 hj
      have hnot : ∀ e ∈ oj.after, Region.binds md e = true → e.on ≠ i := fun e he hb heq => by
        have h1 := hall e he hb
        have h0 := (mem_ready.1 hr).1
        rw [heq] at h1
        have h' := getD_lt h0
        simp [Array.getD, h'] at h0 h1; rw [h0] at h1; cases h1
      have h2 := qOp_put hoj (hfree j oj hoj hji hjun hnot) (fun cs b => hsel i oi cs b hi) (fun cs b => hsel j oj cs b hoj) hy h1
      have hfree' : ∀ k ok, ops[k]? = some ok → k ≠ i → (listed.setIfInBounds j true).getD k true = false →
          (∀ e ∈ ok.after, Region.binds md e = true → e.on ≠ i) → oi.apart ops ok = true := fun k ok hk hki hun hno => by
        refine hfree k ok hk hki ?_ hno
        by_cases hjk : j = k
        · subst hjk; exact hjun
        · rw [getD_set_ne true hjk] at hun; exact hun
      refine qOp_mono (fun a' h3 => ih (listed.setIfInBounds j true) a' (T.step (T.ready_lt hB hj) hj) hfree' (ready_mono hr (Ne.symm hji)) h3.1 ?_) h2
      rw [Array.setIfInBounds_comm _ _ hji]
      exact h3.2

/-- The front's operations may be taken in the text's order. -/
def lexPre (md : Region.Mode) (ops : Array Oper) : Nat → Nat → Array Bool → Bool
  | 0, _, _ => true
  | fuel + 1, k, listed => (Region.ready md ops listed).contains k && Region.free md ops listed k && lexPre md ops fuel (k + 1) (listed.setIfInBounds k true)

/-- Of the others each waits for the one before. -/
def chainFrom (md : Region.Mode) (ops : Array Oper) : Nat → Nat → Array Bool → Bool
  | 0, _, listed => (Region.ready md ops listed).isEmpty
  | fuel + 1, k, listed => (Region.ready md ops listed == [k]) && chainFrom md ops fuel (k + 1) (listed.setIfInBounds k true)

theorem wpAnyE_lex {E : Act → Prop} {m : Nat} (hB : frontB md ops m = true) (hs : Region.noSelect ops = true) : ∀ (l : List Oper) (k : Nat) (listed : Array Bool) (a : Act), (∀ j, j < l.length → l[j]? = ops[k + j]?) → k + l.length = m → Front md ops m l.length listed →
    lexPre md ops l.length k listed = true → wpQuiet P ops C E l a → wpAnyE P md ops C E l.length listed a
  | [], _, _, _, _, _, _, _, h => h
  | o :: l, k, listed, a, hl, hk, T, hL, h => by
    have h0 : ops[k]? = some o := by simpa using (hl 0 (by simp)).symm
    simp only [List.length_cons, lexPre, Bool.and_eq_true] at hL
    obtain ⟨⟨hr, hf⟩, hL'⟩ := hL
    simp only [List.length_cons] at hk
    have hkm : k < m := by omega
    have hr' : k ∈ Region.ready md ops listed := by simpa using hr
    have hst : qOp P ops C k (wpQuiet P ops C E l) a := by unfold qOp; simp only [h0]; exact h
    obtain ⟨v, hy, hK⟩ := yieldsIn_of_qOp h0 hst
    exact wpAnyE_first hB h0 hkm (Region.noSelect_spec hs) l.length listed a T (Region.free_spec h0 hf) hr' hy
      (wpAnyE_lex hB hs l (k + 1) _ _ (fun j hj => by have := hl (j + 1) (by simp; omega); simpa [Nat.add_assoc, Nat.add_comm 1 j] using this) (by omega) (T.step hkm hr') hL' hK)

theorem wpAny_chain {Q : Exit → Act → World → Prop} : ∀ (l : List Oper) (k : Nat) (listed : Array Bool) (a : Act) (w : World), (∀ j, l[j]? = ops[k + j]?) → chainFrom md ops l.length k listed = true → wpList P ops Q l a w → wpAny P md ops Q l.length listed a w
  | [], _, _, _, _, _, hB, h => ⟨by simpa [chainFrom] using hB, h⟩
  | o :: l, k, listed, a, w, hl, hB, h => by
    have h0 : ops[k]? = some o := by simpa using (hl 0).symm
    simp only [List.length_cons, chainFrom, Bool.and_eq_true, beq_iff_eq] at hB
    obtain ⟨hr, hB'⟩ := hB
    refine ⟨fun h => (by rw [hr] at h; cases h), fun i hi => ?_⟩
    rw [hr] at hi
    obtain rfl : i = k := by simpa using hi
    have ih := fun a w => wpAny_chain (Q := Q) l (i + 1) (listed.setIfInBounds i true) a w (fun j => by have := hl (j + 1); simpa [Nat.add_assoc, Nat.add_comm 1 j] using this) hB'
    unfold wpOp
    simp only [h0]
    simp only [wpList] at h
    split
    · rename_i hw
      simp only [hw, if_true] at h
      rcases h with h | h
      · exact .inl (Oper.wp_mono ih h)
      · exact .inr h
    · rename_i hw
      simp only [hw] at h
      exact ih _ _ h

def chainB (md : Region.Mode) (ops : Array Oper) (m : Nat) : Bool :=
  Region.noSelect ops && frontB md ops m && lexPre md ops m 0 (Array.replicate ops.size false) && chainFrom md ops (ops.size - m) m (allOf ops.size m)

theorem wp_region_chain {id : Nat} {Q : Exit → Act → World → Prop} {a : Act} {w : World} (l1 l2 : List Oper) (hops : ops = (l1 ++ l2).toArray) (hm : P.follows .mixedOrders = true) (hB : chainB .any ops l1.length = true)
    (h : wpQuiet P ops (fun w' => ∃ n, w' = w.drewN n) (fun a' => ∀ n, wpList P ops Q l2 a' (w.drewN n)) l1 a) : (Code.region id ops true).wp P Q a w := by
  simp only [chainB, Bool.and_eq_true] at hB
  obtain ⟨⟨⟨hs, hF⟩, hL⟩, hC⟩ := hB
  have hN : ops.size = l1.length + l2.length := by rw [hops]; simp
  have hle : l1.length ≤ ops.size := by omega
  refine wp_region_any hm ?_
  rw [hN]
  rw [hN] at hL
  rw [hN, Nat.add_sub_cancel_left] at hC
  refine wpAny_of_E (C := fun w' => ∃ n, w' = w.drewN n) (E := fun a' => ∀ n, wpList P ops Q l2 a' (w.drewN n)) hF ?_ l1.length _ a _ (by rw [← hN]; exact Front.start _ _ hle) ⟨1, rfl⟩ ?_
  · rintro a' _ ⟨n, rfl⟩ hE
    rw [hN]
    refine wpAny_chain l2 l1.length _ _ _ (fun j => ?_) hC (hE n)
    rw [hops, List.getElem?_toArray, List.getElem?_append_right (by omega), Nat.add_sub_cancel_left]
  · refine wpAnyE_lex hF hs l1 0 _ a (fun j hj => ?_) (by simp) (by rw [← hN]; exact Front.start _ _ hle) hL h
    rw [hops, List.getElem?_toArray, Nat.zero_add, List.getElem?_append_left hj]
end
end Go
