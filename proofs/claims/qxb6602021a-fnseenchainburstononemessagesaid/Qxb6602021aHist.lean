/- acceptedByHistory. -/
import Derived.Test.Qxb6602021aClone
namespace Go.Proofs.Qxb6602021a
open Go.ChangeShapes Go.WideShapes Go.ChangeAt Go.RowKit
set_option linter.unusedVariables false
set_option linter.unusedSimpArgs false

/-- The keys of the calls before j that were accepted for the message (S, q). -/
def keysOf (src key : Nat → List Int) (seq : Nat → Int) (fl : Nat → Bool) (S : List Int) (q : Int) : Nat → List (List Int)
  | 0 => []
  | j + 1 => if fl j = true ∧ src j = S ∧ seq j = q then keysOf src key seq fl S q j ++ [key j] else keysOf src key seq fl S q j

theorem keysOf_mono {src key : Nat → List Int} {seq : Nat → Int} {fl : Nat → Bool} {S : List Int} {q : Int} {i j : Nat} (h : j ≤ i) {x : List Int} (hx : x ∈ keysOf src key seq fl S q j) : x ∈ keysOf src key seq fl S q i := by
  induction i with
  | zero =>
    obtain rfl : j = 0 := by omega
    exact hx
  | succ i ih =>
    by_cases e : j = i + 1
    · subst e; exact hx
    · have := ih (by omega)
      rw [keysOf]
      split
      · exact List.mem_append.2 (.inl this)
      · exact this

/-- Block G holds n calls, from its head on. -/
structure CallsIn (w : World) (G n : Nat) (src key : Nat → List Int) (seq : Nat → Int) : Prop where
  atSrc : ∀ j, j < n → w.rangeAt G (j * 33) (bcells (src j))
  atSeq : ∀ j, j < n → w.cell? ⟨G, j * 33 + 16, none⟩ = some (.int .u64 (seq j))
  atKey : ∀ j, j < n → w.rangeAt G (j * 33 + 17) (bcells (key j))
  isSrc : ∀ j, IsKey (src j) (seq j)
  isKey : ∀ j, IsBytes 16 (key j)

/-- Block H holds n bools. -/
def Flags (w : World) (H n : Nat) (fl : Nat → Bool) : Prop := ∀ j, j < n → w.cell? ⟨H, j, none⟩ = some (.bool (fl j))

set_option maxRecDepth 100000 in
set_option maxHeartbeats 2000000 in
theorem hist_any (G H n c c' i : Nat) (src key : Nat → List Int) (seq : Nat → Int) (fl : Nat → Bool) (w : World) (hC : CallsIn w G n src key seq) (hF : Flags w H n fl) (hi : i < n) (hn : n ≤ 1048576) :
    Calls Try.prog 14 #[.slice (some ⟨G, 0, none⟩) n c, .slice (some ⟨H, 0, none⟩) n c', .int .i64 i] w fun e w' => e = .returned (.bool (acc (keysOf src key seq fl (src i) (seq i) i) (key i))) ∧ ∃ k, w' = w.drewN k := by
  go_enter Try.func14, Try.ntmps14
  go_wp2
  go_loopg [7, 8] i (fun g z x wr => ∃ k m : Nat, k + g = i ∧ z = .int .i64 m ∧ x = .int .i64 k ∧ m = (keysOf src key seq fl (src i) (seq i) k).length ∧ key i ∉ keysOf src key seq fl (src i) (seq i) k ∧ m ≤ k ∧ ∃ q, wr = w.drewN q)
  case atStart => exact ⟨0, 0, by omega, rfl, rfl, rfl, by simp [keysOf], by omega, 0, rfl⟩
  case round =>
    obtain ⟨k, m, hk, rfl, rfl, hm, hno, hmk, nq0, rfl⟩ := hrel
    have Hk : Hid (k + gk = i) := hk
    have Hm : Hid (m = (keysOf src key seq fl (src i) (seq i) k).length) := hm
    have Hno : Hid (key i ∉ keysOf src key seq fl (src i) (seq i) k) := hno
    have hk' : k ≤ i := by omega
    clear hk hm hno
    by_cases hlt : k < i
    · have hd : decide ((k : Int) < (i : Int)) = true := by simp; omega
      have hkn : k < n := by omega
      have f1 := hF k hkn
      have a1 := hC.atSrc k hkn
      have a2 := hC.atSeq k hkn
      have a3 := hC.atKey k hkn
      have b1 := hC.atSrc i hi
      have b2 := hC.atSeq i hi
      have b3 := hC.atKey i hi
      have hsk := (hC.isSrc k).bytes
      have hsi := (hC.isSrc i).bytes
      have hkk := hC.isKey k
      have hki := hC.isKey i
      have g22 := Try.guard22
      have es : ∀ W, (Op.equalIn 10000 22 (.agg (bcells (src k)).toArray) (.agg (bcells (src i)).toArray)).run Try.prog W = .ok (src k == src i) W := fun W => run_equalIn_bytes' W 9998 22 16 Try.underlying22 _ _ hsk.1 hsi.1
      have ek : ∀ W, (Op.equalIn 10000 22 (.agg (bcells (key k)).toArray) (.agg (bcells (key i)).toArray)).run Try.prog W = .ok (key k == key i) W := fun W => run_equalIn_bytes' W 9998 22 16 Try.underlying22 _ _ hkk.1 hki.1
      cases hf : fl k with
      | false =>
        rw [hf] at f1
        go_wp2
        refine wp_region_quiet_lit (by kernel_rfl) (by kernel_rfl) ?_
        repeat (first
          | go_big_quiet_skip
          | (go_big_quiet_want
             first
             | (refine quiet_mid 22 (.tmp 23) rfl _ _ rfl (bcells (src k)) _ (fun _ ⟨n, e⟩ => e ▸ rangeAt_drewN (rangeAt_drewN a1 nq0) n) Try.underlying22 rfl (Try.len22 hsk.1) ?_
                go_big_quiet_on
                simp only [Act.put, List.setIfInBounds_toArray, List.set_cons_zero, List.set_cons_succ])
             | (refine quiet_mid 22 (.tmp 28) rfl _ _ rfl (bcells (src i)) _ (fun _ ⟨n, e⟩ => e ▸ rangeAt_drewN (rangeAt_drewN b1 nq0) n) Try.underlying22 rfl (Try.len22 hsi.1) ?_
                go_big_quiet_on
                simp only [Act.put, List.setIfInBounds_toArray, List.set_cons_zero, List.set_cons_succ])
             | (go_big_quiet_op; go_big_quiet_on)))
        refine wpQuiet_nil ?_
        rintro _ ⟨nq, rfl⟩
        go_wp2
        go_roundg (gk - 1)
        case rel =>
          have := Hk.out
          have e : keysOf src key seq fl (src i) (seq i) (k + 1) = keysOf src key seq fl (src i) (seq i) k := by rw [keysOf, if_neg (fun h => by simp [hf] at h)]
          exact ⟨k + 1, m, by omega, by go_num, by go_num, by rw [e]; exact Hm.out, by rw [e]; exact Hno.out, by omega, _, rfl⟩
        case measure => have := Hk.out; omega
      | true =>
        rw [hf] at f1
        by_cases hs : src k = src i
        · have hsb : (src k == src i) = true := by simpa using hs
          rw [hsb] at es
          by_cases hq : seq k = seq i
          · rw [hq] at a2
            have hyes : fl k = true ∧ src k = src i ∧ seq k = seq i := ⟨hf, hs, hq⟩
            have Hyes : Hid (fl k = true ∧ src k = src i ∧ seq k = seq i) := hyes
            clear hyes hs hq
            by_cases hkey : key k = key i
            · have hkb : (key k == key i) = true := by simpa using hkey
              rw [hkb] at ek
              have Hkey : Hid (key k = key i) := hkey
              clear hkey
              go_wp2
              refine wp_region_quiet_lit (by kernel_rfl) (by kernel_rfl) ?_
              repeat (first
                | go_big_quiet_skip
                | (go_big_quiet_want
                   first
                   | (refine quiet_mid 22 (.tmp 23) rfl _ _ rfl (bcells (src k)) _ (fun _ ⟨n, e⟩ => e ▸ rangeAt_drewN (rangeAt_drewN a1 nq0) n) Try.underlying22 rfl (Try.len22 hsk.1) ?_
                      go_big_quiet_on
                      simp only [Act.put, List.setIfInBounds_toArray, List.set_cons_zero, List.set_cons_succ])
                   | (refine quiet_mid 22 (.tmp 28) rfl _ _ rfl (bcells (src i)) _ (fun _ ⟨n, e⟩ => e ▸ rangeAt_drewN (rangeAt_drewN b1 nq0) n) Try.underlying22 rfl (Try.len22 hsi.1) ?_
                      go_big_quiet_on
                      simp only [Act.put, List.setIfInBounds_toArray, List.set_cons_zero, List.set_cons_succ])
                   | (go_big_quiet_op; go_big_quiet_on)))
              refine wpQuiet_nil ?_
              rintro _ ⟨nq, rfl⟩
              go_wp2
              refine wp_region_quiet_lit (by kernel_rfl) (by kernel_rfl) ?_
              repeat (first
                | go_big_quiet_skip
                | (go_big_quiet_want
                   first
                   | (refine quiet_mid 22 (.tmp 48) rfl _ _ rfl (bcells (key k)) _ (fun _ ⟨n, e⟩ => e ▸ rangeAt_drewN (rangeAt_drewN (rangeAt_drewN a3 nq0) nq) n) Try.underlying22 rfl (Try.len22 hkk.1) ?_
                      go_big_quiet_on
                      simp only [Act.put, List.setIfInBounds_toArray, List.set_cons_zero, List.set_cons_succ])
                   | (refine quiet_mid 22 (.tmp 53) rfl _ _ rfl (bcells (key i)) _ (fun _ ⟨n, e⟩ => e ▸ rangeAt_drewN (rangeAt_drewN (rangeAt_drewN b3 nq0) nq) n) Try.underlying22 rfl (Try.len22 hki.1) ?_
                      go_big_quiet_on
                      simp only [Act.put, List.setIfInBounds_toArray, List.set_cons_zero, List.set_cons_succ])
                   | (go_big_quiet_op; go_big_quiet_on)))
              refine wpQuiet_nil ?_
              rintro _ ⟨nq2, rfl⟩
              go_wp2
              go_ret
              refine ⟨?_, nq0 + (nq + nq2), by simp [World.drewN_drewN, Nat.add_assoc]⟩
              have hin : key i ∈ keysOf src key seq fl (src i) (seq i) i := by
                refine keysOf_mono (j := k + 1) (by omega) ?_
                rw [keysOf, if_pos Hyes.out]
                exact List.mem_append.2 (.inr (List.mem_singleton.2 Hkey.out.symm))
              show Ending.returned (.bool false) = _
              rw [acc, decide_eq_true hin]; rfl
            · have hkb : (key k == key i) = false := by simpa using hkey
              rw [hkb] at ek
              have Hkey : Hid (¬ key k = key i) := hkey
              clear hkey
              go_wp2
              refine wp_region_quiet_lit (by kernel_rfl) (by kernel_rfl) ?_
              repeat (first
                | go_big_quiet_skip
                | (go_big_quiet_want
                   first
                   | (refine quiet_mid 22 (.tmp 23) rfl _ _ rfl (bcells (src k)) _ (fun _ ⟨n, e⟩ => e ▸ rangeAt_drewN (rangeAt_drewN a1 nq0) n) Try.underlying22 rfl (Try.len22 hsk.1) ?_
                      go_big_quiet_on
                      simp only [Act.put, List.setIfInBounds_toArray, List.set_cons_zero, List.set_cons_succ])
                   | (refine quiet_mid 22 (.tmp 28) rfl _ _ rfl (bcells (src i)) _ (fun _ ⟨n, e⟩ => e ▸ rangeAt_drewN (rangeAt_drewN b1 nq0) n) Try.underlying22 rfl (Try.len22 hsi.1) ?_
                      go_big_quiet_on
                      simp only [Act.put, List.setIfInBounds_toArray, List.set_cons_zero, List.set_cons_succ])
                   | (go_big_quiet_op; go_big_quiet_on)))
              refine wpQuiet_nil ?_
              rintro _ ⟨nq, rfl⟩
              go_wp2
              refine wp_region_quiet_lit (by kernel_rfl) (by kernel_rfl) ?_
              repeat (first
                | go_big_quiet_skip
                | (go_big_quiet_want
                   first
                   | (refine quiet_mid 22 (.tmp 48) rfl _ _ rfl (bcells (key k)) _ (fun _ ⟨n, e⟩ => e ▸ rangeAt_drewN (rangeAt_drewN (rangeAt_drewN a3 nq0) nq) n) Try.underlying22 rfl (Try.len22 hkk.1) ?_
                      go_big_quiet_on
                      simp only [Act.put, List.setIfInBounds_toArray, List.set_cons_zero, List.set_cons_succ])
                   | (refine quiet_mid 22 (.tmp 53) rfl _ _ rfl (bcells (key i)) _ (fun _ ⟨n, e⟩ => e ▸ rangeAt_drewN (rangeAt_drewN (rangeAt_drewN b3 nq0) nq) n) Try.underlying22 rfl (Try.len22 hki.1) ?_
                      go_big_quiet_on
                      simp only [Act.put, List.setIfInBounds_toArray, List.set_cons_zero, List.set_cons_succ])
                   | (go_big_quiet_op; go_big_quiet_on)))
              refine wpQuiet_nil ?_
              rintro _ ⟨nq2, rfl⟩
              go_wp2
              go_roundg (gk - 1)
              case rel =>
                have := Hk.out
                have e : keysOf src key seq fl (src i) (seq i) (k + 1) = keysOf src key seq fl (src i) (seq i) k ++ [key k] := by rw [keysOf, if_pos Hyes.out]
                refine ⟨k + 1, m + 1, by omega, by go_num, by go_num, by rw [e, List.length_append, ← Hm.out]; rfl, ?_, by omega, _, rfl⟩
                rw [e]
                intro h
                rcases List.mem_append.1 h with h | h
                · exact Hno.out h
                · exact Hkey.out (List.mem_singleton.1 h).symm
              case measure => have := Hk.out; omega
          · have Hq : Hid (¬ seq k = seq i) := hq
            clear hs
            go_wp2
            refine wp_region_quiet_lit (by kernel_rfl) (by kernel_rfl) ?_
            repeat (first
              | go_big_quiet_skip
              | (go_big_quiet_want
                 first
                 | (refine quiet_mid 22 (.tmp 23) rfl _ _ rfl (bcells (src k)) _ (fun _ ⟨n, e⟩ => e ▸ rangeAt_drewN (rangeAt_drewN a1 nq0) n) Try.underlying22 rfl (Try.len22 hsk.1) ?_
                    go_big_quiet_on
                    simp only [Act.put, List.setIfInBounds_toArray, List.set_cons_zero, List.set_cons_succ])
                 | (refine quiet_mid 22 (.tmp 28) rfl _ _ rfl (bcells (src i)) _ (fun _ ⟨n, e⟩ => e ▸ rangeAt_drewN (rangeAt_drewN b1 nq0) n) Try.underlying22 rfl (Try.len22 hsi.1) ?_
                    go_big_quiet_on
                    simp only [Act.put, List.setIfInBounds_toArray, List.set_cons_zero, List.set_cons_succ])
                 | (go_big_quiet_op; go_big_quiet_on)))
            refine wpQuiet_nil ?_
            rintro _ ⟨nq, rfl⟩
            go_wp2
            go_roundg (gk - 1)
            case rel =>
              have := Hk.out
              have e : keysOf src key seq fl (src i) (seq i) (k + 1) = keysOf src key seq fl (src i) (seq i) k := by rw [keysOf, if_neg (fun h => Hq.out h.2.2)]
              exact ⟨k + 1, m, by omega, by go_num, by go_num, by rw [e]; exact Hm.out, by rw [e]; exact Hno.out, by omega, _, rfl⟩
            case measure => have := Hk.out; omega
        · have hsb : (src k == src i) = false := by simpa using hs
          rw [hsb] at es
          have Hs : Hid (¬ src k = src i) := hs
          clear hs
          go_wp2
          refine wp_region_quiet_lit (by kernel_rfl) (by kernel_rfl) ?_
          repeat (first
            | go_big_quiet_skip
            | (go_big_quiet_want
               first
               | (refine quiet_mid 22 (.tmp 23) rfl _ _ rfl (bcells (src k)) _ (fun _ ⟨n, e⟩ => e ▸ rangeAt_drewN (rangeAt_drewN a1 nq0) n) Try.underlying22 rfl (Try.len22 hsk.1) ?_
                  go_big_quiet_on
                  simp only [Act.put, List.setIfInBounds_toArray, List.set_cons_zero, List.set_cons_succ])
               | (refine quiet_mid 22 (.tmp 28) rfl _ _ rfl (bcells (src i)) _ (fun _ ⟨n, e⟩ => e ▸ rangeAt_drewN (rangeAt_drewN b1 nq0) n) Try.underlying22 rfl (Try.len22 hsi.1) ?_
                  go_big_quiet_on
                  simp only [Act.put, List.setIfInBounds_toArray, List.set_cons_zero, List.set_cons_succ])
               | (go_big_quiet_op; go_big_quiet_on)))
          refine wpQuiet_nil ?_
          rintro _ ⟨nq, rfl⟩
          go_wp2
          go_roundg (gk - 1)
          case rel =>
            have := Hk.out
            have e : keysOf src key seq fl (src i) (seq i) (k + 1) = keysOf src key seq fl (src i) (seq i) k := by rw [keysOf, if_neg (fun h => Hs.out h.2.1)]
            exact ⟨k + 1, m, by omega, by go_num, by go_num, by rw [e]; exact Hm.out, by rw [e]; exact Hno.out, by omega, _, rfl⟩
          case measure => have := Hk.out; omega
    · have hd : decide ((k : Int) < (i : Int)) = false := by simp; omega
      obtain rfl : k = i := by omega
      go_wp2
      go_ret
      refine ⟨?_, _, rfl⟩
      show Ending.returned (.bool (decide ((m : Int) < 4))) = _
      rw [acc, decide_eq_false Hno.out, ← Hm.out]
      simp only [Bool.not_false, Bool.true_and]
      congr 2
      exact decide_eq_decide.2 (by omega)
end Go.Proofs.Qxb6602021a
