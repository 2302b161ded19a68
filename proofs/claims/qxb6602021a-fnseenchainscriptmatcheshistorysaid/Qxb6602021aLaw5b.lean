/- The script's law, every length. -/
import Derived.Test.Qxb6602021aLaw5
namespace Go.Proofs.Qxb6602021a
open Go.ChangeShapes Go.WideShapes Go.ChangeAt Go.RowKit
set_option linter.unusedVariables false
set_option linter.unusedSimpArgs false

set_option maxRecDepth 100000 in
set_option maxHeartbeats 4000000 in
theorem law5_long (s : Option Addr) (n c : Nat) (P : List Int) (pq : Int) (Y : List Value) (w : World) (hn : n ≤ 9223372036854775807) (hn2 : 8192 < n) (hp : IsKey P pq) (hY : Hid (Y = bcells P)) :
    Calls Try.prog 5 #[.slice s n c, .agg Y.toArray, .int .u64 pq] w fun e w' => e = .returned (.bool true) ∧ Below w.heap.size w w' := by
  have B1 : Below w.heap.size w (w.alloc (.cells Y.toArray 22)) := (Below.refl _ _).alloc (Nat.le_refl _) _
  have hr := rangeAt_new w Y 22
  have hYs : (Try.prog.info? 22).map (·.size) = some Y.length := by rw [hY.out]; exact Try.len22 hp.bytes.1
  have hd8 : decide ((8192 : Int) < (n : Int)) = true := by simp; omega
  go_enter Try.func5, Try.ntmps5
  go_wp2_with (refine wpList_load_mid rfl 22 (.tmp 4) rfl _ _ rfl Y _ hr Try.underlying22 rfl hYs ?_)
  generalize w.alloc (.cells Y.toArray 22) = w1 at *
  refine (bytes11 s n c Y.toArray pq w1 hn).mono ?_
  rintro e w2 ⟨⟨b, rfl⟩, B2⟩
  have B12 : Below w.heap.size w w2 := B1.trans (B2.mono B1.size)
  cases b with
  | false =>
    go_wp2
    go_ret
    exact ⟨rfl, B12⟩
  | true =>
    go_wp2
    go_ret
    exact ⟨rfl, B12⟩

theorem law5 (calls : List CallD) (hok : ∀ c ∈ calls, OkCall c) (s : Option Addr) (n c : Nat) (P : List Int) (pq : Int) (Y : List Value) (w : World) (hn : n ≤ 9223372036854775807) (hl : calls.length = n) (hR : RowsAt w s 33 (calls.map callCells)) (hs : (s = none ∧ n = 0 ∧ c = 0) ∨ ∃ g o, s = some ⟨g, o, none⟩) (hp : IsKey P pq) (hY : Hid (Y = bcells P)) :
    Calls Try.prog 5 #[.slice s n c, .agg Y.toArray, .int .u64 pq] w fun e w' => e = .returned (.bool true) ∧ Below w.heap.size w w' := by
  by_cases h : n ≤ 8192
  · exact law5_main calls hok s n c P pq Y w h hl hR hs hp hY
  · exact law5_long s n c P pq Y w hn (by omega) hp hY
end Go.Proofs.Qxb6602021a
