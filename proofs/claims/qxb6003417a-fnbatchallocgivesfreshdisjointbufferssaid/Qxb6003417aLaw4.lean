import Derived.Test.Qxb6003417aRnd
namespace Go.Proofs.Qxb6003417a
open Go.ChangeShapes Go.WideShapes Go.ChangeAt Go.RowKit
set_option linter.unusedVariables false
set_option linter.unusedSimpArgs false

set_option maxRecDepth 100000 in
set_option maxHeartbeats 1000000 in
theorem law4_some (x : Addr) (n c : Nat) (f : Nat → Int) (w : World) (hn : n ≤ 4096)
    (hc : Hid (∀ j, j < n → w.cell? (x.add j) = some (.int .i64 (f j)))) :
    Calls Try.prog 4 #[.slice (some x) n c] w fun e w' => e = .returned (.bool true) ∧ Below w.heap.size w w' := by
  go_enter Try.func4, Try.ntmps4
  go_wp2
  go_loopg [3, 4] n (fun g t i wr => ∃ k : Nat, k + g = n ∧ w = wr ∧ i = .int .i64 k ∧ t = .int .i64 (sumTo f k) ∧ Hid (∀ j, j < k → 0 ≤ f j ∧ f j ≤ 65536))
  case atStart => exact ⟨0, by omega, rfl, rfl, rfl, fun j hj => by omega⟩
  case round =>
    obtain ⟨k, hk, rfl, rfl, rfl, hr⟩ := hrel
    have hk' : k ≤ n := by omega
    have Hk : Hid (k + gk = n) := hk
    clear hk
    have hs := sumTo_bd f k hr.out
    by_cases hlt : k < n
    · have hck := hc.out k hlt
      rcases (show f k < 0 ∨ 65536 < f k ∨ (0 ≤ f k ∧ f k ≤ 65536) from by omega) with h | h | h
      · go_wp2
        go_ret
        exact ⟨rfl, Below.refl _ _⟩
      · go_wp2
        go_ret
        exact ⟨rfl, Below.refl _ _⟩
      · go_wp2
        go_roundg (gk - 1)
        case rel =>
          have := Hk.out
          refine ⟨k + 1, by omega, rfl, by go_num, rfl, fun j hj => ?_⟩
          by_cases e : j = k
          · subst e; exact h
          · exact hr.out j (by omega)
        case measure => have := Hk.out; omega
    · obtain rfl : k = n := by omega
      clear hlt hk'
      by_cases hts : 1048576 < sumTo f k
      · go_wp2
        go_ret
        exact ⟨rfl, Below.refl _ _⟩
      · clear hs
        have hf := hr.out
        clear hr Hk
        obtain ⟨cs, hcs⟩ : ∃ cs : List Value, cs = (List.range k).map (fun j => Value.int .i64 (f j)) := ⟨_, rfl⟩
        have hlen : Hid (cs.length = k) := by rw [hcs]; show _ = _; simp
        have hcc : Hid (∀ j v, cs[j]? = some v → w.cell? (x.add j) = some v) := by
          intro j v hv
          rw [hcs] at hv
          simp only [List.getElem?_map] at hv
          obtain ⟨j', hj', rfl⟩ := Option.map_eq_some_iff.1 hv
          obtain ⟨hlt, rfl⟩ := List.getElem?_eq_some_iff.1 hj'
          simp at hlt
          simpa using hc.out j hlt
        have h1c : Hid (∀ v ∈ cs, v.oneCell' = true) := by
          intro v hv
          rw [hcs] at hv
          obtain ⟨j, _, rfl⟩ := List.mem_map.1 hv
          rfl
        have Hcs : Hid (cs = (List.range k).map (fun j => Value.int .i64 (f j))) := hcs
        clear hcs
        have Hf : Hid (∀ j, j < k → 0 ≤ f j ∧ f j ≤ 65536) := hf
        clear hf
        have hb : 24 * k ≤ 281474976710656 := by omega
        have hb2 : k ≤ 9223372036854775807 := by omega
        go_wp2_with (first
          | (go_at_call 15; refine (cloneInts_some x k c cs w (by omega) hlen.out hcc h1c).mono ?_; rintro e w' ⟨rfl, rfl⟩)
          | (at_make; refine wpList_make_at _ rfl _ _ 33 rfl 22 _ _ _ Try.underlying33 Try.info22 _ _ _ _ k rfl rfl rfl rfl hb hb2 ?_))
        go_loopg [7] k (fun g i wr => ∃ m : Nat, m + g = k ∧ i = .int .i64 m ∧ ∃ lb af lf bufs, Rnd w w.heap.size (w.heap.size + 1) (w.heap.size + 1 + 1) k f m wr lb af lf bufs)
        case atStart => exact ⟨0, by omega, rfl, 0, none, 0, [], rnd_start w k f cs Hcs.out⟩
        case round =>
          obtain ⟨m, hm, rfl, lb, af, lf, bufs, R⟩ := hrel
          obtain ⟨g0, rfl⟩ : ∃ g0 : Nat, g0 = gk := ⟨_, rfl⟩
          have hm' : m ≤ k := by omega
          have Hm : Hid (m + g0 = k) := hm
          clear hm
          by_cases hlt : m < k
          · have hfm := Hf.out m hlt
            obtain ⟨q, hq⟩ := Int.eq_ofNat_of_zero_le hfm.1
            have hsm := R.s m hlt
            rw [hq] at hsm hfm
            have Hq : Hid (f m = q) := hq
            clear hq
            go_wp2_with (fail)
            refine (zzalloc_any _ q lb lf af _ (by omega) (by have := R.mem.los; omega) R.mem.batch).mono ?_
            rintro e w1 ⟨ax, lb', af', lf', rfl, G⟩
            have M := mid_of R G (by omega) (by omega) (by omega)
            have hsm1 : w1.cell? ⟨w.heap.size, m, none⟩ = some (.int .i64 q) := by
              rw [M.s m hlt, Hq.out]
            clear R G hsm
            go_wp2
            have hq6 : q ≤ 65536 := by omega
            clear hfm hsm1
            go_loopg [10] q (fun g j wr => ∃ t : Nat, t + g = q ∧ j = .int .i64 t ∧ Filling w1 wr ax q t (fill m) ∧ Below w.heap.size w wr)
            case atStart => exact ⟨0, by omega, rfl, filling_start _ M.fresh.zeros, M.below⟩
            case round =>
              obtain ⟨t, ht, rfl, F, hbel⟩ := hrel
              have ht' : t ≤ q := by omega
              have Ht : Hid (t + gk = q) := ht
              clear ht
              by_cases htq : t < q
              · obtain ⟨g, s, rfl⟩ := M.fresh.zeros.addr (by omega)
                have hct := F.todo g s rfl t (Nat.le_refl _) htq
                have hft : wr.frozen? ⟨g, s + t, none⟩ = false := by
                  rw [F.frozen]; exact M.fresh.zeros.free g (s + t) ⟨s, rfl, by omega, by omega⟩
                go_wp2
                go_roundg (gk - 1)
                case rel =>
                  have := Ht.out
                  have hlo := (M.fresh.apart g (s + t) ⟨s, rfl, by omega, by omega⟩).1
                  exact ⟨t + 1, by omega, by go_num, filling_step F htq, hbel.setCell (p := ⟨g, s + t, none⟩) (by show w.heap.size ≤ g; omega) _⟩
                case measure => have := Ht.out; omega
              · obtain rfl : t = q := by omega
                obtain ⟨v, hv⟩ := M.u m hlt
                have hv2 : wr.cell? ⟨w.heap.size + 1 + 1, m, none⟩ = some v := by
                  rw [F.cell _ _ (fun hi => by have := (M.fresh.apart _ _ hi).1; omega)]; exact hv
                have hf2 : wr.frozen? ⟨w.heap.size + 1 + 1, m, none⟩ = false := by
                  rw [F.frozen]; exact M.uf m
                clear hv
                go_wp2
                go_roundg (g0 - 1)
                case rel =>
                  have := Hm.out
                  exact ⟨m + 1, by omega, by go_num, lb', af', lf', _, rnd_next M F hlt (by omega) (by omega) (Nat.le_refl _) hq6 hbel⟩
                case measure => have := Hm.out; omega
          · obtain rfl : m = k := by omega
            clear hlt hm' Hm
            go_wp2
            go_loopg [11] m (fun g i wr' => ∃ p : Nat, p + g = m ∧ i = .int .i64 p ∧ wr = wr')
            case atStart => exact ⟨0, by omega, rfl, rfl⟩
            case round =>
              obtain ⟨p, hp, rfl, rfl⟩ := hrel
              obtain ⟨g1, rfl⟩ : ∃ g1 : Nat, g1 = gk := ⟨_, rfl⟩
              have hp' : p ≤ m := by omega
              have Hp : Hid (p + g1 = m) := hp
              clear hp
              by_cases hlt : p < m
              · have hl := R.len
                obtain ⟨⟨ap, np, xp⟩, hbp⟩ : ∃ t, bufs[p]? = some t := ⟨bufs[p]'(by omega), List.getElem?_eq_getElem (by omega)⟩
                obtain ⟨hpc, hpx, hpn⟩ := R.put p _ hbp
                simp only at hpc hpx hpn
                have hby := R.mem.buf _ (List.mem_of_getElem? hbp)
                simp only [hpx] at hby
                clear hl hbp hpx
                go_wp2
                go_loopg [13] np (fun g j wr' => ∃ t : Nat, t + g = np ∧ j = .int .i64 t ∧ wr = wr')
                case atStart => exact ⟨0, by omega, rfl, rfl⟩
                case round =>
                  obtain ⟨t, ht, rfl, rfl⟩ := hrel
                  have ht' : t ≤ np := by omega
                  have Ht : Hid (t + gk = np) := ht
                  clear ht
                  by_cases htq : t < np
                  · obtain ⟨g, s, rfl⟩ := hby.addr (by omega)
                    have hct := hby.cell g (s + t) ⟨s, rfl, by omega, by omega⟩
                    unfold fill at hct
                    go_wp2
                    go_roundg (gk - 1)
                    case rel => have := Ht.out; exact ⟨t + 1, by omega, by go_num, rfl⟩
                    case measure => have := Ht.out; omega
                  · go_wp2
                    go_roundg (g1 - 1)
                    case rel => have := Hp.out; exact ⟨p + 1, by omega, by go_num, rfl⟩
                    case measure => have := Hp.out; omega
              · go_wp2
                go_ret
                exact ⟨rfl, R.below⟩
end Go.Proofs.Qxb6003417a
