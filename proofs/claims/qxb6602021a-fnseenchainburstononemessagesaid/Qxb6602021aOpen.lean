/- An argument of type [16]byte, opened. -/
import Derived.Test.Qxb6602021aBase
import Derived.OpenShut
import Derived.ShutString
import Derived.ChangeOld
import Derived.Below
namespace Go.Proofs.Qxb6602021a
open Go.ChangeShapes Go.WideShapes Go.ChangeAt Go.RowKit
set_option linter.unusedVariables false
set_option linter.unusedSimpArgs false

theorem Try.cells22 : Try.prog.cellsOf 22 = 16 := by kernel_rfl
theorem Try.cells5 : Try.prog.cellsOf 5 = 1 := by kernel_rfl

theorem bytes_of_list : ∀ (l : List Value), (∀ v ∈ l, ∃ n, v = .int .u8 n ∧ 0 ≤ n ∧ n ≤ 255) → ∃ A : List Int, l = bcells A ∧ ∀ x ∈ A, 0 ≤ x ∧ x ≤ 255
  | [], _ => ⟨[], rfl, by simp⟩
  | v :: l, h => by
    obtain ⟨n, rfl, h1, h2⟩ := h v (by simp)
    obtain ⟨A, rfl, hA⟩ := bytes_of_list l (fun u hu => h u (by simp [hu]))
    refine ⟨n :: A, rfl, fun x hx => ?_⟩
    rcases List.mem_cons.1 hx with rfl | hx
    · exact ⟨h1, h2⟩
    · exact hA x hx

/-- The cells of a [16]byte that reads as data. -/
theorem open_row16 {H : Type} {enc : TypeId × Value → H} {W : World} {base : Nat} {spare : Nat → Bool} {held : Bool} {fuel : Nat} {cs : List Value} {x : DataW H × List MemPlace} (h : DataW.trod enc Try.prog W base spare held fuel 22 cs = some x) : ∃ A, IsBytes 16 A ∧ cs = bcells A := by
  obtain ⟨xs, m, _, _, hl, hn, hi⟩ := DataW.trod_array Try.underlying22 h
  rw [Try.cells22] at hl
  simp only [Try.cells5, Nat.mul_one] at hi
  obtain ⟨A, hA, hr⟩ := bytes_of_list cs (by
    intro v hv
    obtain ⟨i, hi', rfl⟩ := List.mem_iff_getElem.1 hv
    have h1 := hi i (by omega)
    have e : (cs.drop i).take 1 = [cs[i]] := by
      rw [List.drop_eq_getElem_cons hi']; rfl
    rw [e, List.getElem?_eq_getElem (by omega)] at h1
    obtain ⟨n, hn', _, hw⟩ := DataW.trod_int Try.underlying5 h1
    have := bounds_u8 hw
    exact ⟨n, by simpa using hn', by omega, by omega⟩)
  exact ⟨A, ⟨by rw [← bcells_length, ← hA]; exact hl, hr⟩, hA⟩

theorem open_bytes16 {H : Type} {enc : TypeId × Value → H} {W : World} {r : Reach} {b0 base : Nat} {spare : Nat → Bool} {held : Bool} {v : Value} {d : DataW H} {p : List MemPlace} (hv : Value.okWide Try.prog W r b0 22 v) (h : DataW.Trod enc Try.prog W base spare held 22 v d p) : ∃ A, IsBytes 16 A ∧ v = .agg (bcells A).toArray := by
  simp only [Value.okWide, Try.underlying22] at hv
  obtain ⟨cs, rfl, hsz, _⟩ := hv
  obtain ⟨fuel, hf⟩ := h
  obtain ⟨A, hA, hc⟩ := open_row16 hf
  refine ⟨A, hA, ?_⟩
  have hc' : cs.toList = bcells A := by simpa [Value.cells] using hc
  rw [← hc']

end Go.Proofs.Qxb6602021a
