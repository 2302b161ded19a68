import Derived.Test.Qxb6602021aCmp
namespace Go.Proofs.Qxb6602021a
open Go.ChangeShapes Go.WideShapes Go.ChangeAt Go.RowKit
set_option linter.unusedVariables false
set_option linter.unusedSimpArgs false

theorem Try.row23 (n : Nat) (h : n = 16) : (Try.prog.info? 23).map (·.size) = some n := by subst h; kernel_rfl
theorem Try.row22 (n : Nat) (h : n = 16) : (Try.prog.info? 22).map (·.size) = some n := by subst h; kernel_rfl

/-- k bytes of A, then zeros. -/
def low (A : List Int) (k : Nat) : List Int := (List.range 16).map fun i => if i < k then A.getD i 0 else 0

theorem low_length (A : List Int) (k : Nat) : (low A k).length = 16 := by simp [low]

/-- What (ID).next gives. -/
def NextIs (A R : List Int) (b : Bool) : Prop :=
  (∃ k, k < 16 ∧ A.getD k 0 ≠ 255 ∧ (∀ j, k < j → j < 16 → A.getD j 0 = 255) ∧ R = (low A (k + 1)).set k (A.getD k 0 + 1) ∧ b = true) ∨
  ((∀ j, j < 16 → A.getD j 0 = 255) ∧ R = List.replicate 16 0 ∧ b = false)

theorem low_get (A : List Int) {m : Nat} (hm : m < 16) : (low A (m + 1)).getD m 0 = A.getD m 0 := by
  simp [low, hm]

theorem low_all {A : List Int} (h : A.length = 16) : low A 16 = A := by
  apply List.ext_getElem?
  intro i
  by_cases hi : i < 16
  · simp [low, hi, h]
  · simp [low, hi, h]

theorem low_next (A : List Int) {m : Nat} (hm : m < 16) : (low A (m + 1)).set m 0 = low A m := by
  apply List.ext_getElem?
  intro i
  rw [List.getElem?_set, low_length]
  by_cases hi : i < 16
  · by_cases e : m = i
    · subst e; simp [low, hm]
    · rw [if_neg e]
      simp only [low, List.getElem?_map, List.getElem?_range hi, Option.map_some]
      by_cases h1 : i < m
      · rw [if_pos (by omega), if_pos h1]
      · rw [if_neg (by omega), if_neg h1]
  · rw [if_neg (by omega), List.getElem?_eq_none (by rw [low_length]; omega), List.getElem?_eq_none (by rw [low_length]; omega)]

/-- The two variables of next: id, what is handed back; old memory as it was. -/
structure NextAt (w wr : World) (L : List Int) : Prop where
  id : wr.heap[w.heap.size]? = some (.cells (bcells L).toArray 23 (0, 0))
  res : wr.heap[w.heap.size + 1]? = some (.cells (bcells (List.replicate 16 0)).toArray 23 (0, 0))
  below : Below w.heap.size w wr

theorem NextAt.store {w wr : World} {L : List Int} (h : NextAt w wr L) (m : Nat) (y : Int) : NextAt w (wr.setCell ⟨w.heap.size, m, none⟩ (.int .u8 y)) (L.set m y) := by
  refine ⟨?_, ?_, h.below.setCell (p := ⟨w.heap.size, m, none⟩) (Nat.le_refl _) _⟩
  · rw [heap_setCell_same wr w.heap.size m _ 23 _ h.id, bcells_set]; simp
  · rw [heap_setCell_other _ _ _ _ (by simp)]; exact h.res

theorem next_start (w : World) (A : List Int) (ha : A.length = 16) : NextAt w ((w.alloc (.cells (bcells A).toArray 23)).alloc (.cells (bcells (List.replicate 16 0)).toArray 23)) (low A 16) := by
  have e := low_all ha
  refine ⟨?_, ?_, ((Below.refl _ _).alloc (Nat.le_refl _) _).alloc (by simp) _⟩
  · rw [heap_alloc2_old, e]
  · rw [heap_alloc2_new]

theorem bcells_all (L : List Int) : (bcells L).toArray.all (·.oneCell') = true := by
  simp [bcells]
  intro x _; rfl

theorem below_row {B g : Nat} {w0 w : World} (hb : Below B w0 w) (hBg : B ≤ g) (cs : Array Value) : Below B w0 (w.setRow g cs) :=
  hb.trans ⟨rfl, rfl, rfl, by simp [World.setRow], fun k hk => setRow_other w g k cs (by omega)⟩

theorem zeros16 : (bcells (List.replicate 16 0)).toArray = #[.int .u8 0, .int .u8 0, .int .u8 0, .int .u8 0, .int .u8 0, .int .u8 0, .int .u8 0, .int .u8 0, .int .u8 0, .int .u8 0, .int .u8 0, .int .u8 0, .int .u8 0, .int .u8 0, .int .u8 0, .int .u8 0] := rfl

theorem results_next {fn : Func} (h : fn.results = #[.cell 2 23, .tmp 3]) (tmps : Array Value) (w : World) (g : Nat) (cs : Array Value) (v : Value)
    (hp : tmps.getD 2 undef = .pointer (some ⟨g, 0, none⟩)) (hv : tmps.getD 3 undef = v) (hg : w.heap[g]? = some (.cells cs 23 (0, 0))) (hs : cs.size = 16) :
    (results fn tmps).run Try.prog w = .ok (.tuple #[.agg cs, v]) w := by
  have hp' : tmps[2]?.getD undef = .pointer (some ⟨g, 0, none⟩) := by simpa using hp
  have hv' : tmps[3]?.getD undef = v := by simpa using hv
  have hl := run_loadVar_row (P := Try.prog) w g 23 23 cs (0, 0) _ hg Try.underlying23 rfl (Try.row23 _ hs)
  simp [results, h, hp', hv', asAddr, hl]

set_option maxRecDepth 100000 in
set_option maxHeartbeats 1000000 in
theorem next_any (A : List Int) (X : Array Value) (w : World) (hX : Hid (X = (bcells A).toArray)) (ha : IsBytes 16 A) :
    Calls Try.prog 21 #[.agg X] w fun e w' => ∃ R b, e = .returned (.tuple #[.agg (bcells R).toArray, .bool b]) ∧ NextIs A R b ∧ Below w.heap.size w w' := by
  go_enter Try.func21, Try.ntmps21
  go_wp2
  go_loopg [4] 16 (fun g i wr => g ≤ 16 ∧ i = .int .i64 ((g : Int) - 1) ∧ (∀ j, g ≤ j → j < 16 → A.getD j 0 = 255) ∧ NextAt w wr (low A g))
  case atStart => exact ⟨by omega, by go_num, fun j h1 h2 => by omega, by rw [hX.out, ← zeros16]; exact next_start w A ha.1⟩
  case round =>
    obtain ⟨hg, rfl, h255, T⟩ := hrel
    have H255 : Hid (∀ j, gk ≤ j → j < 16 → A.getD j 0 = 255) := h255
    clear h255
    cases gk with
    | zero =>
      have hr := T.res
      have hb := T.below
      have Hr : Hid (wr.heap[w.heap.size + 1]? = some (.cells (bcells (List.replicate 16 0)).toArray 23 (0, 0))) := hr
      clear hr
      go_wp2_with (refine wpList_store_row rfl 23 (.tmp 2) (.tmp 19) rfl (w.heap.size + 1) (bcells (List.replicate 16 0)).toArray rfl rfl 23 _ Hr.out (Try.row23 _ rfl) rfl (bcells_all _) ?_)
      refine bodyPost_ret (results_next rfl _ _ (w.heap.size + 1) _ (.bool false) rfl rfl (setRow_heap _ _ _ _ 23 _ Hr.out) rfl) rfl ?_
      exact ⟨List.replicate 16 0, false, rfl, .inr ⟨fun j hj => H255.out j (Nat.zero_le _) hj, rfl, rfl⟩, below_row hb (by omega) _⟩
    | succ m =>
      have hcell : wr.cell? ⟨w.heap.size, m, none⟩ = some (.int .u8 (A.getD m 0)) := by
        rw [cell_of_row _ _ _ _ _ _ T.id]
        have := bcells_get (xs := low A (m + 1)) (i := m) (by rw [low_length]; omega)
        rw [low_get A (by omega)] at this
        simpa using this
      have hfz : wr.frozen? ⟨w.heap.size, m, none⟩ = false := frozen_of_row _ _ _ _ _ T.id
      have hrg := ha.get m
      obtain ⟨a, hA⟩ : ∃ a, a = A.getD m 0 := ⟨_, rfl⟩
      rw [← hA] at hcell hrg
      have HA : Hid (a = A.getD m 0) := hA
      clear hA
      have e1 : ((m + 1 : Nat) : Int) - 1 = (m : Int) := by omega
      rw [e1]
      by_cases h : a = 255
      · have hw : IntKind.u8.wrap (a + 1) = 0 := by rw [IntKind.wrap_u8]; omega
        have T1 := T.store m 0
        rw [low_next A (by omega)] at T1
        have Ha : Hid (a = 255) := h
        clear h
        go_wp2
        go_roundg m
        case rel =>
          refine ⟨by omega, rfl, fun j h1 h2 => ?_, T1⟩
          by_cases e : j = m
          · rw [e, ← HA.out]; exact Ha.out
          · exact H255.out j (by omega) h2
        case measure => omega
      · have hw : IntKind.u8.wrap (a + 1) = a + 1 := by rw [IntKind.wrap_u8]; omega
        have hne : (a + 1 != 0) = true := by simp; omega
        have T1 := T.store m (a + 1)
        have hid : Hid _ := T1.id
        have hres : Hid _ := T1.res
        have hlen : (bcells ((low A (m + 1)).set m (a + 1))).toArray.size = 16 := by rw [List.size_toArray, bcells_length, List.length_set, low_length]
        have Hlen : Hid ((bcells ((low A (m + 1)).set m (a + 1))).toArray.size = 16) := hlen
        have hb := T1.below
        have hall := bcells_all ((low A (m + 1)).set m (a + 1))
        have Hall : Hid _ := hall
        clear hlen hall
        go_wp2_with (first
          | (refine wpList_load_row rfl 23 (.tmp 1) rfl w.heap.size rfl 23 _ (0, 0) _ hid.out Try.underlying23 rfl (Try.row23 _ Hlen.out) ?_)
          | (refine wpList_store_row rfl 23 (.tmp 2) (.tmp 18) rfl (w.heap.size + 1) _ rfl rfl 23 _ hres.out (Try.row23 _ Hlen.out) (by rw [Hlen.out]; rfl) Hall.out ?_))
        refine bodyPost_ret (results_next rfl _ _ (w.heap.size + 1) _ (.bool true) rfl rfl (setRow_heap _ _ _ _ 23 _ hres.out) Hlen.out) rfl ?_
        refine ⟨(low A (m + 1)).set m (a + 1), true, rfl, .inl ⟨m, by omega, ?_, fun j h1 h2 => H255.out j (by omega) h2, ?_, rfl⟩, below_row hb (by omega) _⟩
        · rw [← HA.out]; exact h
        · rw [← HA.out]
end Go.Proofs.Qxb6602021a
