/-
  THE ARGUMENTS OPENED: rows of ints, rows of rows.
-/
import Derived.Test.Qxb6604796aB3
import Derived.ProofKit
import Derived.OpenShut
import Derived.ShutString
import Derived.ChangeOld
import Derived.Deep.Slices
namespace Go.Proofs.Qxb6604796a
open Go.ChangeShapes Go.WideShapes Go.ChangeAt Go.RowKit

theorem own : ownKnob Try.prog.godebug = none := by kernel_rfl
theorem laidOut : laidOutB Try.prog = true := by kernel_rfl
theorem Try.cells3 : Try.prog.cellsOf 3 = 1 := by kernel_rfl
theorem Try.cells26 : Try.prog.cellsOf 26 = 1 := by kernel_rfl

theorem lt_of_cell {w : World} {b o : Nat} {v : Value} (h : w.cell? ⟨b, o, none⟩ = some v) : b < w.heap.size := by
  unfold World.cell? at h
  split at h
  · rename_i c e hh heq
    exact (Array.getElem?_eq_some_iff.1 heq).1
  · cases h

section
variable {H : Type} {enc : TypeId × Value → H} {w : World} {held : Bool}

theorem row_of {fuel : Nat} {cs : List Value} {x : DataW H × List MemPlace} (h : DataW.trod enc Try.prog w 0 (fun _ => true) held fuel 26 cs = some x) :
    ∃ a l c Z, cs = [.slice a l c] ∧ l ≤ c ∧ c ≤ maxLen ∧ IRow w 0 w.heap.size a l Z := by
  rcases open_ints Try.underlying26 Try.underlying3 Try.cells3 h with ⟨rfl, _⟩ | ⟨a, len, cap, zs, rfl, _, hl, hm, hz, _, hcell, _⟩
  · exact ⟨none, 0, 0, fun _ => 0, rfl, Nat.le_refl _, Nat.zero_le _, .inl rfl⟩
  · refine ⟨some a, len, cap, fun k => zs.getD k 0, rfl, hl, hm, ?_⟩
    by_cases h0 : len = 0
    · exact .inl h0
    · have hz' : zs.length = cap := hz
      obtain ⟨b, off, rfl, hc⟩ := ints_at hcell (by omega)
      exact .inr ⟨b, off, rfl, Nat.zero_le _, lt_of_cell (hc 0 (by omega)), fun i hi => hc i (by omega)⟩

theorem rows_of {fuel : Nat} {cs : List Value} {x : DataW H × List MemPlace} (h : DataW.trod enc Try.prog w 0 (fun _ => true) held fuel 27 cs = some x) :
    ∃ a l c A L C Z, cs = [.slice a l c] ∧ l ≤ c ∧ c ≤ maxLen ∧ IRows w 0 w.heap.size a l A L C Z := by
  rcases Go.Deep.open_slice1 Try.underlying27 Try.cells26 h with ⟨rfl, _⟩ | ⟨a, len, cap, m, n, V, D, Pl, rfl, _, hl, hm, hmm, _, hel⟩
  · exact ⟨none, 0, 0, fun _ => none, fun _ => 0, fun _ => 0, fun _ _ => 0, rfl, Nat.le_refl _, Nat.zero_le _, .inl rfl⟩
  · have hmm' : m = cap := hmm
    by_cases h0 : len = 0
    · exact ⟨some a, len, cap, fun _ => none, fun _ => 0, fun _ => 0, fun _ _ => 0, rfl, hl, hm, .inl h0⟩
    · have key : ∀ i, i < len → ∃ r : Option Addr × Nat × Nat × (Nat → Int), w.cell? (a.add i) = some (.slice r.1 r.2.1 r.2.2.1) ∧ r.2.1 ≤ r.2.2.1 ∧ r.2.2.1 ≤ maxLen ∧ IRow w 0 w.heap.size r.1 r.2.1 r.2.2.2 := by
        intro i hi
        obtain ⟨h1, h2⟩ := hel i (by omega)
        obtain ⟨a', l', c', Z', e, g1, g2, g3⟩ := row_of h2
        have e' : V i = .slice a' l' c' := by simpa using e
        exact ⟨(a', l', c', Z'), by rw [h1, e'], g1, g2, g3⟩
      obtain ⟨F, hF⟩ := Go.Deep.choose_lt (α := Option Addr × Nat × Nat × (Nat → Int)) key
      obtain ⟨b, off, spot⟩ := a
      have h00 := (hF 0 (by omega)).1
      have hspot : spot = none := by simpa [Addr.add] using World.cell?_spot h00
      subst hspot
      refine ⟨some ⟨b, off, none⟩, len, cap, fun i => (F i).1, fun i => (F i).2.1, fun i => (F i).2.2.1, fun i => (F i).2.2.2, rfl, hl, hm, .inr ⟨b, off, rfl, Nat.zero_le _, ?_, fun v hv => ?_⟩⟩
      · exact lt_of_cell (w := w) (b := b) (o := off) h00
      · have := hF v hv
        rw [Go.WideShapes.add_plain] at this
        exact this
end

end Go.Proofs.Qxb6604796a
