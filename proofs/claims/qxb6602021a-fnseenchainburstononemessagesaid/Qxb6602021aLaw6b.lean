/- The burst's law, every length. -/
import Derived.Test.Qxb6602021aLaw6
namespace Go.Proofs.Qxb6602021a
open Go.ChangeShapes Go.WideShapes Go.ChangeAt Go.RowKit
set_option linter.unusedVariables false
set_option linter.unusedSimpArgs false

set_option maxRecDepth 100000 in
set_option maxHeartbeats 4000000 in
theorem law6_long (s : Option Addr) (n c : Nat) (P : List Int) (pq : Int) (Y : List Value) (s2 : Option Addr) (m c2 : Nat) (w : World) (hn : n ≤ 9223372036854775807) (hm : m ≤ 9223372036854775807) (hnm : 1048576 < 40 * n + 16 * m) (hp : IsKey P pq) (hY : Hid (Y = bcells P)) :
    Calls Try.prog 6 #[.slice s n c, .agg Y.toArray, .int .u64 pq, .slice s2 m c2] w fun e w' => e = .returned (.bool true) ∧ Below w.heap.size w w' := by
  have B1 : Below w.heap.size w (w.alloc (.cells Y.toArray 22)) := (Below.refl _ _).alloc (Nat.le_refl _) _
  have hr := rangeAt_new w Y 22
  have hYs : (Try.prog.info? 22).map (·.size) = some Y.length := by rw [hY.out]; exact Try.len22 hp.bytes.1
  go_enter Try.func6, Try.ntmps6
  go_wp2_with (refine wpList_load_mid rfl 22 (.tmp 5) rfl _ _ rfl Y _ hr Try.underlying22 rfl hYs ?_)
  generalize w.alloc (.cells Y.toArray 22) = w1 at *
  refine (bytes17 s n c Y.toArray pq s2 m c2 w1 hn hm).mono ?_
  rintro e w2 ⟨⟨b, rfl⟩, B2⟩
  have B12 : Below w.heap.size w w2 := B1.trans (B2.mono B1.size)
  cases b with
  | false =>
    go_wp2
    go_ret
    exact ⟨rfl, B12⟩
  | true =>
    by_cases h1 : 1048576 < n
    · have hd1 : decide ((1048576 : Int) < (n : Int)) = true := by simp; omega
      go_wp2
      go_ret
      exact ⟨rfl, B12⟩
    · have hd1 : decide ((1048576 : Int) < (n : Int)) = false := by simp; omega
      by_cases h2 : 1048576 < m
      · have hd2 : decide ((1048576 : Int) < (m : Int)) = true := by simp; omega
        go_wp2
        go_ret
        exact ⟨rfl, B12⟩
      · have hd2 : decide ((1048576 : Int) < (m : Int)) = false := by simp; omega
        have hd3 : decide ((1048576 : Int) < 40 * (n : Int) + 16 * (m : Int)) = true := by simp; omega
        have hn' : n ≤ 1048576 := by omega
        have hm' : m ≤ 1048576 := by omega
        go_wp2
        go_ret
        exact ⟨rfl, B12⟩

theorem law6 (calls : List CallD) (hok : ∀ c ∈ calls, OkCall c) (s : Option Addr) (n c : Nat) (S : List Int) (q : Int) (Y : List Value) (keys : List (List Int)) (hkeys : ∀ x ∈ keys, IsBytes 16 x) (s2 : Option Addr) (m c2 : Nat) (w : World) (hn : n ≤ 9223372036854775807) (hm : m ≤ 9223372036854775807) (hl : calls.length = n) (hR : RowsAt w s 33 (calls.map callCells)) (hs : (s = none ∧ n = 0 ∧ c = 0) ∨ ∃ g o, s = some ⟨g, o, none⟩)
    (hl2 : keys.length = m) (hRk : RowsAt w s2 16 (keys.map bcells)) (hsk : (s2 = none ∧ m = 0 ∧ c2 = 0) ∨ ∃ g o, s2 = some ⟨g, o, none⟩) (hp : IsKey S q) (hY : Hid (Y = bcells S)) :
    Calls Try.prog 6 #[.slice s n c, .agg Y.toArray, .int .u64 q, .slice s2 m c2] w fun e w' => e = .returned (.bool true) ∧ Below w.heap.size w w' := by
  by_cases h : 40 * n + 16 * m ≤ 1048576
  · exact law6_main calls hok s n c S q Y keys hkeys s2 m c2 w h hl hR hs hl2 hRk hsk hp hY
  · exact law6_long s n c S q Y s2 m c2 w hn hm (by omega) hp hY
end Go.Proofs.Qxb6602021a
