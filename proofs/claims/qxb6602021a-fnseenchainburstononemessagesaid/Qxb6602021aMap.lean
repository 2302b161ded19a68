/- The maps of a 'seen': what they hold, a look-up, a store. -/
import Derived.Test.Qxb6602021aKeys
namespace Go.Proofs.Qxb6602021a
open Go.ChangeShapes Go.WideShapes Go.ChangeAt Go.RowKit
set_option linter.unusedVariables false
set_option linter.unusedSimpArgs false

/-- What is recorded: for a message (its source, its number) the keys of its chains. -/
abbrev Rec : Type := List Int → Int → Option (List (List Int))
def Rec.nil : Rec := fun _ _ => none
def Rec.put (m : Rec) (S : List Int) (q : Int) (L : List (List Int)) : Rec := fun T r => if T = S ∧ r = q then some L else m T r

theorem Rec.put_same (m : Rec) (S : List Int) (q : Int) (L : List (List Int)) : m.put S q L S q = some L := by simp [Rec.put]
theorem Rec.put_other (m : Rec) {S T : List Int} {q r : Int} (L : List (List Int)) (h : ¬ (T = S ∧ r = q)) : m.put S q L T r = m T r := by simp [Rec.put, h]

/-- The identities L as cells. -/
def flat (L : List (List Int)) : List Value := (L.map bcells).flatten

theorem flat_length {L : List (List Int)} (h : ∀ x ∈ L, IsBytes 16 x) : (flat L).length = 16 * L.length := by
  induction L with
  | nil => rfl
  | cons x L ih =>
    have h1 := (h x (by simp)).1
    have h2 := ih (fun y hy => h y (by simp [hy]))
    simp only [flat, List.map_cons, List.flatten_cons, List.length_append, bcells_length, List.length_cons] at h2 ⊢
    omega
theorem flat_append (L M : List (List Int)) : flat (L ++ M) = flat L ++ flat M := by simp [flat]

/-- v is a slice of the identities L, in a block of its own. -/
structure Row (w : World) (v : Value) (L : List (List Int)) : Prop where
  ex : ∃ g c cs, v = .slice (some ⟨g, 0, none⟩) L.length c ∧ w.heap[g]? = some (.cells cs 23 (0, 0)) ∧ cs.toList.take (16 * L.length) = flat L ∧ L.length ≤ c
  ids : ∀ x ∈ L, IsBytes 16 x
  pos : 0 < L.length
  le : L.length ≤ 4

/-- Block b is a map that holds m; it has n entries. -/
structure IsMap (w : World) (b : Nat) (m : Rec) (n : Nat) : Prop where
  ex : ∃ es clock, w.heap[b]? = some (.map es clock) ∧ es.size = n ∧ es.toList.Pairwise (fun x y => x.key ≠ y.key) ∧
    (∀ e ∈ es.toList, ∃ S q L, IsKey S q ∧ e.key = kv S q ∧ m S q = some L ∧ Row w e.val L) ∧
    ∀ S q L, IsKey S q → m S q = some L → ∃ e ∈ es.toList, e.key = kv S q

/-- The same for a map value, nil or not. -/
def MapAt (w : World) : Option Nat → Rec → Nat → Prop
  | none, m, n => m = Rec.nil ∧ n = 0
  | some b, m, n => IsMap w b m n

theorem Row.keep {w w' : World} {v : Value} {L : List (List Int)} (h : Row w v L) (hk : ∀ (g : Nat) (cs : Array Value) (t : TypeId) (z : Nat × Nat), w.heap[g]? = some (Obj.cells cs t z) → w'.heap[g]? = some (Obj.cells cs t z)) : Row w' v L := by
  obtain ⟨g, c, cs, e, hg, r⟩ := h.ex
  exact ⟨⟨g, c, cs, e, hk _ _ _ _ hg, r⟩, h.ids, h.pos, h.le⟩

theorem Row.later {w w' : World} {v : Value} {L : List (List Int)} (h : Row w v L) (hb : Below w.heap.size w w') : Row w' v L := by
  obtain ⟨g, c, cs, e, hg, r⟩ := h.ex
  exact ⟨⟨g, c, cs, e, by rw [hb.block g (Array.getElem?_eq_some_iff.1 hg).1]; exact hg, r⟩, h.ids, h.pos, h.le⟩

theorem IsMap.later {w w' : World} {b n : Nat} {m : Rec} (h : IsMap w b m n) (hb : Below w.heap.size w w') : IsMap w' b m n := by
  obtain ⟨es, clock, hg, hn, hd, hk, hm⟩ := h.ex
  refine ⟨es, clock, by rw [hb.block b (Array.getElem?_eq_some_iff.1 hg).1]; exact hg, hn, hd, fun e he => ?_, hm⟩
  obtain ⟨S, q, L, a, b, c, r⟩ := hk e he
  exact ⟨S, q, L, a, b, c, r.later hb⟩

theorem MapAt.later {w w' : World} {r : Option Nat} {n : Nat} {m : Rec} (h : MapAt w r m n) (hb : Below w.heap.size w w') : MapAt w' r m n := by
  cases r with
  | none => exact h
  | some b => exact IsMap.later h hb

theorem Try.zero47 (w : World) : (zeroValue 47).run Try.prog w = .ok (.slice none 0 0) w := by
  have h : (Try.prog.info? 47).map (·.zero) = some (some (.slice none 0 0)) := by kernel_rfl
  obtain ⟨i, hi, hz⟩ := Option.map_eq_some_iff.1 h
  simp [zeroValue, typeInfo, hi, hz]

theorem entry_unique : ∀ {es : List MapEntry}, es.Pairwise (fun x y => x.key ≠ y.key) → ∀ {x y : MapEntry}, x ∈ es → y ∈ es → x.key = y.key → x = y
  | [], _, _, _, hx, _, _ => by simp at hx
  | e :: es, h, x, y, hx, hy, hk => by
    obtain ⟨h1, h2⟩ := List.pairwise_cons.1 h
    rcases List.mem_cons.1 hx with ex | hx'
    · rcases List.mem_cons.1 hy with ey | hy'
      · rw [ex, ey]
      · exact absurd (ex ▸ hk) (h1 y hy')
    · rcases List.mem_cons.1 hy with ey | hy'
      · exact absurd (ey ▸ hk.symm) (h1 x hx')
      · exact entry_unique h2 hx' hy' hk

/-- A look-up, in whatever world with this map. -/
theorem run_look {w : World} {r : Option Nat} {m : Rec} {n : Nat} (h : MapAt w r m n) {S : List Int} {q : Int} (hk : IsKey S q) :
    (m S q = none ∧ ∀ w', (∀ b, r = some b → w'.heap[b]? = w.heap[b]?) → (Instr.lookup 54 (.map r) (kv S q) true).run Try.prog w' = .ok (.tuple #[.slice none 0 0, .bool false]) w') ∨
    ∃ L v, m S q = some L ∧ Row w v L ∧ ∀ w', (∀ b, r = some b → w'.heap[b]? = w.heap[b]?) → (Instr.lookup 54 (.map r) (kv S q) true).run Try.prog w' = .ok (.tuple #[v, .bool true]) w' := by
  obtain ⟨l, hl⟩ := key61 hk
  have hu := Try.underlying54
  cases r with
  | none =>
    left
    refine ⟨by rw [h.1]; rfl, fun w' hw' => ?_⟩
    rcases Try.keyed61.find w' hl [] (by simp) with ⟨hf, _⟩ | ⟨j, e, hf, he, _⟩
    · simp [Instr.lookup, run_underlying hu, Try.keyed61.check w' _ hl, hf, Try.zero47, Result.andThen]
    · simp at he
  | some b =>
    obtain ⟨es, clock, hg, hn, hd, hkk, hm⟩ := IsMap.ex h
    have hkeys : ∀ e ∈ es.toList, ∃ l, keyOf Try.prog 61 e.key = some l := by
      intro e he
      obtain ⟨S', q', L', hk', e', _⟩ := hkk e he
      rw [e']; exact key61 hk'
    rcases Try.keyed61.find w hl es.toList hkeys with ⟨hf, hne⟩ | ⟨j, e, hf, he, hke⟩
    · left
      constructor
      · cases hx : m S q with
        | none => rfl
        | some L =>
          obtain ⟨e, he, hke⟩ := hm S q L hk hx
          exact absurd hke (hne e he)
      · intro w' hw'
        have hg' : w'.heap[b]? = some (.map es clock) := (hw' b rfl).trans hg
        rcases Try.keyed61.find w' hl es.toList hkeys with ⟨hf', _⟩ | ⟨j, e, _, he, hke⟩
        · simp [Instr.lookup, run_underlying hu, MapKept.run_getObj_map hg', Try.keyed61.check w' _ hl, hf', Try.zero47, Result.andThen]
        · exact absurd hke (hne e (List.mem_of_getElem? he))
    · right
      obtain ⟨S', q', L', hk', e', hL', hrow⟩ := hkk e (List.mem_of_getElem? he)
      obtain ⟨rfl, rfl⟩ := kv_inj hk.bytes.1 hk'.bytes.1 (hke.symm.trans e')
      refine ⟨L', e.val, hL', hrow, fun w' hw' => ?_⟩
      have hg' : w'.heap[b]? = some (.map es clock) := (hw' b rfl).trans hg
      rcases Try.keyed61.find w' hl es.toList hkeys with ⟨_, hne⟩ | ⟨j2, e2, hf', he2, hke2⟩
      · exact absurd hke (hne e (List.mem_of_getElem? he))
      · obtain rfl := entry_unique hd (List.mem_of_getElem? he) (List.mem_of_getElem? he2) (hke.trans hke2.symm)
        simp [Instr.lookup, run_underlying hu, MapKept.run_getObj_map hg', Try.keyed61.check w' _ hl, hf', Result.andThen]

theorem pairwise_set {es : List MapEntry} {j : Nat} {e0 e1 : MapEntry} (h : es.Pairwise (fun x y => x.key ≠ y.key)) (hj : es[j]? = some e0) (he : e1.key = e0.key) : (es.set j e1).Pairwise (fun x y => x.key ≠ y.key) := by
  rw [List.pairwise_iff_getElem] at h ⊢
  have hjl := (List.getElem?_eq_some_iff.1 hj).1
  have hje := (List.getElem?_eq_some_iff.1 hj).2
  intro a b ha hb hab
  simp only [List.length_set] at ha hb
  simp only [List.getElem_set]
  have h1 := h a b ha hb hab
  by_cases ea : j = a
  · subst ea
    rw [if_pos rfl, if_neg (by omega), he, ← hje]
    exact h1
  · rw [if_neg ea]
    by_cases eb : j = b
    · subst eb
      rw [if_pos rfl, he, ← hje]
      exact h1
    · rw [if_neg eb]; exact h1

/-- A store. -/
theorem run_store {w : World} {b : Nat} {m : Rec} {n : Nat} (h : IsMap w b m n) {S : List Int} {q : Int} (hk : IsKey S q) {v : Value} {L : List (List Int)} (hv : Row w v L) :
    ∃ o n', (Instr.mapUpdate 54 (.map (some b)) (kv S q) v).run Try.prog w = .ok () (ChangeMaps.setBlock w b o) ∧ IsMap (ChangeMaps.setBlock w b o) b (m.put S q L) n' ∧ n' ≤ n + 1 ∧ (m S q ≠ none → n' = n) := by
  obtain ⟨l, hl⟩ := key61 hk
  have hu := Try.underlying54
  have hf0 := Try.keyed61.find w hl
  obtain ⟨es, clock, hg, hn, hd, hkk, hm⟩ := h.ex
  have hkeys : ∀ e ∈ es.toList, ∃ l, keyOf Try.prog 61 e.key = some l := by
    intro e he
    obtain ⟨S', q', L', hk', e', _⟩ := hkk e he
    rw [e']; exact key61 hk'
  have hbl := (Array.getElem?_eq_some_iff.1 hg).1
  have hset : ∀ o, (ChangeMaps.setBlock w b o).heap[b]? = some o := fun o => by simp [ChangeMaps.setBlock, hbl]
  have hrow : ∀ o v L, Row w v L → Row (ChangeMaps.setBlock w b o) v L := fun o v L hr => hr.keep fun g cs t z hgz => by
    have hne : b ≠ g := fun e => by subst e; rw [hg] at hgz; cases hgz
    simp only [ChangeMaps.setBlock, Array.getElem?_setIfInBounds, hne, if_false]
    exact hgz
  rcases hf0 es.toList hkeys with ⟨hf, hne⟩ | ⟨j, e, hf, he, hke⟩
  · have hnone : m S q = none := by
      cases hx : m S q with
      | none => rfl
      | some L =>
        obtain ⟨e, he, hke⟩ := hm S q L hk hx
        exact absurd hke (hne e he)
    refine ⟨.map (es.push ⟨kv S q, v, clock⟩) (clock + 1), n + 1, ?_, ⟨_, _, hset _, by simp [hn], ?_, ?_, ?_⟩, Nat.le_refl _, fun hx => absurd hnone hx⟩
    · simp [Instr.mapUpdate, run_underlying hu, MapKept.run_getObj_map hg, Try.keyed61.check w _ hl, hf, MapKept.run_setObj_map _ hg, Result.andThen, ChangeMaps.setBlock]
    · rw [Array.toList_push, List.pairwise_append]
      refine ⟨hd, by simp, fun x hx y hy => ?_⟩
      obtain rfl := List.mem_singleton.1 hy
      exact hne x hx
    · intro e he
      rw [Array.toList_push, List.mem_append] at he
      rcases he with he | he
      · obtain ⟨S', q', L', hk', e', hL', hr⟩ := hkk e he
        refine ⟨S', q', L', hk', e', ?_, hrow _ _ _ hr⟩
        rw [Rec.put_other]
        · exact hL'
        · rintro ⟨rfl, rfl⟩
          exact hne e he e'
      · obtain rfl := List.mem_singleton.1 he
        exact ⟨S, q, L, hk, rfl, Rec.put_same _ _ _ _, hrow _ _ _ hv⟩
    · intro S' q' L' hk' hL'
      by_cases hc : S' = S ∧ q' = q
      · obtain ⟨rfl, rfl⟩ := hc
        exact ⟨⟨kv S' q', v, clock⟩, by simp, rfl⟩
      · rw [Rec.put_other _ _ hc] at hL'
        obtain ⟨e, he, hke⟩ := hm S' q' L' hk' hL'
        exact ⟨e, by simp [Array.mem_toList_iff.1 he], hke⟩
  · have hj : es[j]? = some e := by simpa using he
    have hsome : m S q ≠ none := by
      obtain ⟨S', q', L', hk', e', hL', hr⟩ := hkk e (List.mem_of_getElem? he)
      obtain ⟨rfl, rfl⟩ := kv_inj hk.bytes.1 hk'.bytes.1 (hke.symm.trans e')
      rw [hL']; simp
    have hst := Try.keyed61.stays w hl
    have hjl := (Array.getElem?_eq_some_iff.1 hj).1
    have hmod : (es.modify j fun e => { e with key := kv S q, val := v }).toList = es.toList.set j { e with key := kv S q, val := v } := by
      apply List.ext_getElem?
      intro i
      rw [Array.getElem?_toList, Array.getElem?_modify, List.getElem?_set]
      by_cases hi : j = i
      · subst hi
        simp [hj, hjl, (Array.getElem?_eq_some_iff.1 hj).2]
      · simp [hi]
    refine ⟨.map (es.modify j fun e => { e with key := kv S q, val := v }) clock, n, ?_, ⟨_, _, hset _, by simp [hn], ?_, ?_, ?_⟩, by omega, fun _ => rfl⟩
    · simp [Instr.mapUpdate, run_underlying hu, MapKept.run_getObj_map hg, Try.keyed61.check w _ hl, hf, hj, hke, hst, MapKept.run_setObj_map _ hg, Result.andThen, ChangeMaps.setBlock]
    · rw [hmod]
      exact pairwise_set hd he hke.symm
    · intro x hx
      rw [hmod] at hx
      obtain ⟨i, hi, rfl⟩ := List.mem_iff_getElem.1 hx
      have hi' : i < es.toList.length := by simpa only [List.length_set] using hi
      simp only [List.getElem_set]
      by_cases e1 : j = i
      · rw [if_pos e1]
        exact ⟨S, q, L, hk, rfl, Rec.put_same _ _ _ _, hrow _ _ _ hv⟩
      · rw [if_neg e1]
        obtain ⟨S', q', L', hk', e', hL', hr⟩ := hkk es.toList[i] (List.getElem_mem _)
        refine ⟨S', q', L', hk', e', ?_, hrow _ _ _ hr⟩
        rw [Rec.put_other]
        · exact hL'
        · rintro ⟨rfl, rfl⟩
          rw [List.pairwise_iff_getElem] at hd
          have hjl' : j < es.toList.length := by simpa using hjl
          have hje : es.toList[j] = e := (List.getElem?_eq_some_iff.1 he).2
          rcases Nat.lt_or_gt_of_ne e1 with h1 | h1
          · exact hd j i hjl' hi' h1 (by rw [hje, hke, e'])
          · exact hd i j hi' hjl' h1 (by rw [hje, hke, e'])
    · intro S' q' L' hk' hL'
      rw [hmod]
      by_cases hc : S' = S ∧ q' = q
      · obtain ⟨rfl, rfl⟩ := hc
        exact ⟨{ e with key := kv S' q', val := v }, List.mem_of_getElem? (i := j) (by simp [hjl]), rfl⟩
      · rw [Rec.put_other _ _ hc] at hL'
        obtain ⟨x, hx, hkx⟩ := hm S' q' L' hk' hL'
        obtain ⟨i, hi, rfl⟩ := List.mem_iff_getElem.1 hx
        have e1 : j ≠ i := fun h => by
          subst h
          have hje : es.toList[j] = e := (List.getElem?_eq_some_iff.1 he).2
          rw [hje, hke] at hkx
          obtain ⟨rfl, rfl⟩ := kv_inj hk.bytes.1 hk'.bytes.1 hkx
          exact hc ⟨rfl, rfl⟩
        exact ⟨es.toList[i], List.mem_of_getElem? (i := i) (by rw [List.getElem?_set_ne e1]; exact List.getElem?_eq_getElem hi), hkx⟩
end Go.Proofs.Qxb6602021a
