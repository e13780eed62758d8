/-
  THE ARGUMENTS OPENED: a row of int8.
-/
import Derived.Test.Qxb6604796aO1
import Derived.Test.Qxb6604796aFb
namespace Go.Proofs.Qxb6604796a
open Go.ChangeShapes Go.WideShapes Go.ChangeAt Go.RowKit

theorem Try.cells39 : Try.prog.cellsOf 39 = 1 := by kernel_rfl

theorem wf_i8 {z : Int} (h : (Lit.int .i8 z).wf = true) : -128 ≤ z ∧ z ≤ 127 := by
  have h' : (decide (IntKind.i8.min ≤ z) && decide (z ≤ IntKind.i8.max)) = true := h
  rw [show IntKind.i8.min = -128 by decide, show IntKind.i8.max = 127 by decide] at h'
  simpa using h'

section
variable {H : Type} {enc : TypeId × Value → H} {w : World} {held : Bool}

theorem row8_of {fuel : Nat} {cs : List Value} {x : DataW H × List MemPlace} (h : DataW.trod enc Try.prog w 0 (fun _ => true) held fuel 28 cs = some x) :
    ∃ a l c Z, cs = [.slice a l c] ∧ l ≤ c ∧ c ≤ maxLen ∧ I8 w 0 w.heap.size a l Z ∧ ∀ i, i < l → -128 ≤ Z i ∧ Z i ≤ 127 := by
  rcases open_ints Try.underlying28 Try.underlying39 Try.cells39 h with ⟨rfl, _⟩ | ⟨a, len, cap, zs, rfl, _, hl, hm, hz, _, hcell, hwf⟩
  · exact ⟨none, 0, 0, fun _ => 0, rfl, Nat.le_refl _, Nat.zero_le _, .inl rfl, fun i hi => absurd hi (Nat.not_lt_zero _)⟩
  · have hz' : zs.length = cap := hz
    refine ⟨some a, len, cap, fun k => zs.getD k 0, rfl, hl, hm, ?_, fun i hi => ?_⟩
    · by_cases h0 : len = 0
      · exact .inl h0
      · obtain ⟨b, off, rfl, hc⟩ := ints_at hcell (by omega)
        exact .inr ⟨b, off, rfl, Nat.zero_le _, lt_of_cell (hc 0 (by omega)), fun i hi => hc i (by omega)⟩
    · refine wf_i8 (hwf _ ?_)
      show zs.getD i 0 ∈ zs
      rw [List.getD_eq_getElem?_getD, List.getElem?_eq_getElem (show i < zs.length by omega)]
      exact List.getElem_mem _
end

end Go.Proofs.Qxb6604796a
