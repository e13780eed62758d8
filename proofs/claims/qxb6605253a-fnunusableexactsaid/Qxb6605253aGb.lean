/-
  THE ARGUMENTS OPENED: slices of structs, slices of strings.
-/
import Derived.Test.Qxb6605253aG7
import Derived.ProofKit
import Derived.OpenShut
import Derived.ShutString
import Derived.ChangeOld
import Derived.SliceStrings
import Derived.Deep.Slices
namespace Go.Proofs.Qxb6605253a
open Go.ChangeShapes Go.WideShapes Go.ChangeAt Go.RowKit
set_option linter.unusedVariables false

theorem own : ownKnob Try.prog.godebug = none := by kernel_rfl
theorem Try.cells55 : Try.prog.cellsOf 55 = 6 := by kernel_rfl
theorem Try.cells60 : Try.prog.cellsOf 60 = 6 := by kernel_rfl

section
variable {H : Type} {enc : TypeId × Value → H} {w : World} {base : Nat} {spare : Nat → Bool} {held : Bool}

theorem cell_string {m j : Nat} {cs : List Value} {f : Field} {y : Option (DataW H × List MemPlace)} (ft : f.type = 9) (fo : f.offset = j) (hy : DataW.trod enc Try.prog w base spare held m f.type ((cs.drop f.offset).take (Try.prog.cellsOf f.type)) = y) (hs : y.isSome = true) : ∃ s : ByteArray, cs[j]? = some (.string s) ∧ s.size ≤ maxLen := by
  obtain ⟨z, rfl⟩ := Option.isSome_iff_exists.1 hs
  rw [ft, fo, Try.cells9] at hy
  obtain ⟨s, hb, _, hsz⟩ := DataW.trod_string Try.underlying9 hy
  refine ⟨s, ?_, hsz⟩
  have := congrArg (fun l => l[0]?) hb
  simpa using this

theorem cell_int {m j : Nat} {cs : List Value} {f : Field} {y : Option (DataW H × List MemPlace)} (ft : f.type = 3) (fo : f.offset = j) (hy : DataW.trod enc Try.prog w base spare held m f.type ((cs.drop f.offset).take (Try.prog.cellsOf f.type)) = y) (hs : y.isSome = true) : ∃ z : Int, cs[j]? = some (.int .i64 z) ∧ (Lit.int .i64 z).wf = true := by
  obtain ⟨z, rfl⟩ := Option.isSome_iff_exists.1 hs
  rw [ft, fo, Try.cells3] at hy
  obtain ⟨s, hb, _, hsz⟩ := DataW.trod_int Try.underlying3 hy
  refine ⟨s, ?_, hsz⟩
  have := congrArg (fun l => l[0]?) hb
  simpa using this

theorem gpu_of {n : Nat} {cs : List Value} {x : DataW H × List MemPlace} (h : DataW.trod enc Try.prog w base spare held n 55 cs = some x) : ∃ G : G6, (∀ j, j < 6 → cs[j]? = some (gV (fun _ => G) 0 j)) ∧ G.t.ok := by
  obtain ⟨xs, m, _, _, hl, hlen, hf⟩ := DataW.trod_struct Try.underlying55 h
  have hlen6 : xs.length = 6 := hlen
  have hx : ∀ i, i < 6 → (xs[i]?).isSome = true := fun i hi => by rw [List.getElem?_eq_getElem (by omega)]; rfl
  obtain ⟨v0, c0, _⟩ := cell_int (j := 0) rfl rfl (hf 0 _ rfl) (hx 0 (by omega))
  obtain ⟨v1, c1, s1⟩ := cell_string (j := 1) rfl rfl (hf 1 _ rfl) (hx 1 (by omega))
  obtain ⟨v2, c2, s2⟩ := cell_string (j := 2) rfl rfl (hf 2 _ rfl) (hx 2 (by omega))
  obtain ⟨v3, c3, s3⟩ := cell_int (j := 3) rfl rfl (hf 3 _ rfl) (hx 3 (by omega))
  obtain ⟨v4, c4, _⟩ := cell_string (j := 4) rfl rfl (hf 4 _ rfl) (hx 4 (by omega))
  obtain ⟨v5, c5, _⟩ := cell_string (j := 5) rfl rfl (hf 5 _ rfl) (hx 5 (by omega))
  refine ⟨⟨v0, ⟨v1, v2, v3⟩, v4, v5⟩, fun j hj => ?_, ⟨s1, s2, s3⟩⟩
  have hj6 : j = 0 ∨ j = 1 ∨ j = 2 ∨ j = 3 ∨ j = 4 ∨ j = 5 := by omega
  rcases hj6 with rfl | rfl | rfl | rfl | rfl | rfl
  · exact c0
  · exact c1
  · exact c2
  · exact c3
  · exact c4
  · exact c5

theorem kernel_of {n : Nat} {cs : List Value} {x : DataW H × List MemPlace} (h : DataW.trod enc Try.prog w base spare held n 60 cs = some x) : ∃ K : K6, (∀ j, j < 6 → cs[j]? = some (kV (fun _ => K) 0 j)) ∧ K.t.ok := by
  obtain ⟨xs, m, _, _, hl, hlen, hf⟩ := DataW.trod_struct Try.underlying60 h
  have hlen6 : xs.length = 6 := hlen
  have hx : ∀ i, i < 6 → (xs[i]?).isSome = true := fun i hi => by rw [List.getElem?_eq_getElem (by omega)]; rfl
  obtain ⟨v0, c0, _⟩ := cell_string (j := 0) rfl rfl (hf 0 _ rfl) (hx 0 (by omega))
  obtain ⟨v1, c1, _⟩ := cell_string (j := 1) rfl rfl (hf 1 _ rfl) (hx 1 (by omega))
  obtain ⟨v2, c2, s1⟩ := cell_string (j := 2) rfl rfl (hf 2 _ rfl) (hx 2 (by omega))
  obtain ⟨v3, c3, s2⟩ := cell_string (j := 3) rfl rfl (hf 3 _ rfl) (hx 3 (by omega))
  obtain ⟨v4, c4, s3⟩ := cell_int (j := 4) rfl rfl (hf 4 _ rfl) (hx 4 (by omega))
  obtain ⟨v5, c5, _⟩ := cell_string (j := 5) rfl rfl (hf 5 _ rfl) (hx 5 (by omega))
  refine ⟨⟨v0, v1, ⟨v2, v3, v4⟩, v5⟩, fun j hj => ?_, ⟨s1, s2, s3⟩⟩
  have hj6 : j = 0 ∨ j = 1 ∨ j = 2 ∨ j = 3 ∨ j = 4 ∨ j = 5 := by omega
  rcases hj6 with rfl | rfl | rfl | rfl | rfl | rfl
  · exact c0
  · exact c1
  · exact c2
  · exact c3
  · exact c4
  · exact c5

theorem lt_of_cell {w : World} {b o : Nat} {v : Value} (h : w.cell? ⟨b, o, none⟩ = some v) : b < w.heap.size := by
  unfold World.cell? at h
  split at h
  · rename_i c e hh heq
    exact (Array.getElem?_eq_some_iff.1 heq).1
  · cases h

/-- From the elements' cells to the row. -/
theorem row_of {a : Addr} {len : Nat} {V : Nat → Nat → Value} (hp : 0 < len) (hx : ∀ i, i < len → ∃ cs', w.cells? base (a.add (i * 6)) 6 = some cs' ∧ ∀ j, j < 6 → cs'[j]? = some (V i j)) : SRow w w.heap.size (some a) len 6 V := by
  have h1 : ∀ i, i < len → ∀ j, j < 6 → w.cell? (a.add (i * 6 + j)) = some (V i j) := fun i hi j hj => by
    obtain ⟨cs', hc, hv⟩ := hx i hi
    obtain ⟨_, hlen, hcell⟩ := World.cells?_some hc
    rw [← Go.Deep.add_add, hcell j hj, hv j hj]
  obtain ⟨b, off, spot⟩ := a
  have h00 := h1 0 hp 0 (by omega)
  have hspot : spot = none := by simpa [Addr.add] using World.cell?_spot h00
  subst hspot
  have h2 : ∀ i, i < len → ∀ j, j < 6 → w.cell? ⟨b, off + i * 6 + j, none⟩ = some (V i j) := fun i hi j hj => by
    have := h1 i hi j hj
    rw [Go.WideShapes.add_plain] at this
    rw [Nat.add_assoc]; exact this
  exact .inr ⟨b, off, rfl, lt_of_cell (h2 0 hp 0 (by omega)), h2⟩

def toG (x : Int × ByteArray × ByteArray × Int × ByteArray × ByteArray) : G6 := ⟨x.1, ⟨x.2.1, x.2.2.1, x.2.2.2.1⟩, x.2.2.2.2.1, x.2.2.2.2.2⟩
def toK (x : ByteArray × ByteArray × ByteArray × ByteArray × Int × ByteArray) : K6 := ⟨x.1, x.2.1, ⟨x.2.2.1, x.2.2.2.1, x.2.2.2.2.1⟩, x.2.2.2.2.2⟩

theorem gpus_of {fuel : Nat} {cs : List Value} {x : DataW H × List MemPlace} (h : DataW.trod enc Try.prog w base (fun _ => true) held fuel 37 cs = some x) :
    ∃ a l c g, cs = [.slice a l c] ∧ l ≤ c ∧ c ≤ maxLen ∧ (a = none → l = 0 ∧ c = 0) ∧ SRow w w.heap.size a l 6 (gV g) ∧ ∀ i, i < l → (g i).t.ok := by
  rcases Go.Deep.open_slice Try.underlying37 h with ⟨rfl, _⟩ | ⟨a, l, c, m, n, D, Pl, rfl, _, hl, hm, hmm, _, hel⟩
  · exact ⟨none, 0, 0, fun _ => ⟨0, ⟨⟨#[]⟩, ⟨#[]⟩, 0⟩, ⟨#[]⟩, ⟨#[]⟩⟩, rfl, Nat.le_refl _, Nat.zero_le _, fun _ => ⟨rfl, rfl⟩, .inl rfl, fun i h => absurd h (Nat.not_lt_zero _)⟩
  · have hmm' : m = c := hmm
    rw [Try.cells55] at hel
    obtain ⟨g, hg⟩ := Go.Deep.choose_lt (α := Int × ByteArray × ByteArray × Int × ByteArray × ByteArray) (n := l) (p := fun i G => (∃ cs', w.cells? base (a.add (i * 6)) 6 = some cs' ∧ ∀ j, j < 6 → cs'[j]? = some (gV (fun _ => toG G) 0 j)) ∧ (toG G).t.ok) (fun i hi => by
      obtain ⟨cs', h1, h2⟩ := hel i (by omega)
      obtain ⟨G, h3, h4⟩ := gpu_of h2
      exact ⟨(G.ix, G.t.be, G.t.ar, G.t.ws, G.pr, G.dr), ⟨cs', h1, h3⟩, h4⟩)
    refine ⟨some a, l, c, fun i => toG (g i), rfl, hl, hm, fun e => (by cases e), ?_, fun i hi => (hg i hi).2⟩
    by_cases h0 : l = 0
    · exact .inl h0
    · refine row_of (base := base) (by omega) fun i hi => ?_
      obtain ⟨cs', h1, h2⟩ := (hg i hi).1
      refine ⟨cs', h1, fun j hj => ?_⟩
      rw [h2 j hj]
      have hj6 : j = 0 ∨ j = 1 ∨ j = 2 ∨ j = 3 ∨ j = 4 ∨ j = 5 := by omega
      rcases hj6 with rfl | rfl | rfl | rfl | rfl | rfl <;> rfl

theorem kernels_of {fuel : Nat} {cs : List Value} {x : DataW H × List MemPlace} (h : DataW.trod enc Try.prog w base (fun _ => true) held fuel 39 cs = some x) :
    ∃ a l c q, cs = [.slice a l c] ∧ l ≤ c ∧ c ≤ maxLen ∧ (a = none → l = 0 ∧ c = 0) ∧ SRow w w.heap.size a l 6 (kV q) ∧ ∀ i, i < l → (q i).t.ok := by
  rcases Go.Deep.open_slice Try.underlying39 h with ⟨rfl, _⟩ | ⟨a, l, c, m, n, D, Pl, rfl, _, hl, hm, hmm, _, hel⟩
  · exact ⟨none, 0, 0, fun _ => ⟨⟨#[]⟩, ⟨#[]⟩, ⟨⟨#[]⟩, ⟨#[]⟩, 0⟩, ⟨#[]⟩⟩, rfl, Nat.le_refl _, Nat.zero_le _, fun _ => ⟨rfl, rfl⟩, .inl rfl, fun i h => absurd h (Nat.not_lt_zero _)⟩
  · have hmm' : m = c := hmm
    rw [Try.cells60] at hel
    obtain ⟨q, hg⟩ := Go.Deep.choose_lt (α := ByteArray × ByteArray × ByteArray × ByteArray × Int × ByteArray) (n := l) (p := fun i K => (∃ cs', w.cells? base (a.add (i * 6)) 6 = some cs' ∧ ∀ j, j < 6 → cs'[j]? = some (kV (fun _ => toK K) 0 j)) ∧ (toK K).t.ok) (fun i hi => by
      obtain ⟨cs', h1, h2⟩ := hel i (by omega)
      obtain ⟨K, h3, h4⟩ := kernel_of h2
      exact ⟨(K.en, K.nm, K.t.be, K.t.ar, K.t.ws, K.tv), ⟨cs', h1, h3⟩, h4⟩)
    refine ⟨some a, l, c, fun i => toK (q i), rfl, hl, hm, fun e => (by cases e), ?_, fun i hi => (hg i hi).2⟩
    by_cases h0 : l = 0
    · exact .inl h0
    · refine row_of (base := base) (by omega) fun i hi => ?_
      obtain ⟨cs', h1, h2⟩ := (hg i hi).1
      refine ⟨cs', h1, fun j hj => ?_⟩
      rw [h2 j hj]
      have hj6 : j = 0 ∨ j = 1 ∨ j = 2 ∨ j = 3 ∨ j = 4 ∨ j = 5 := by omega
      rcases hj6 with rfl | rfl | rfl | rfl | rfl | rfl <;> rfl

theorem strings_of {fuel : Nat} {cs : List Value} {x : DataW H × List MemPlace} (h : DataW.trod enc Try.prog w base (fun _ => true) held fuel 61 cs = some x) :
    ∃ a l c s, cs = [.slice a l c] ∧ l ≤ c ∧ c ≤ maxLen ∧ (a = none → l = 0 ∧ c = 0) ∧ SRow w w.heap.size a l 1 (sV s) := by
  rcases open_strings Try.underlying61 Try.underlying9 Try.cells9 h with ⟨rfl, _⟩ | ⟨a, l, c, ss, rfl, _, hl, hm, hz, _, hcell, _⟩
  · exact ⟨none, 0, 0, fun _ => ⟨#[]⟩, rfl, Nat.le_refl _, Nat.zero_le _, fun _ => ⟨rfl, rfl⟩, .inl rfl⟩
  · refine ⟨some a, l, c, fun i => ss.getD i ByteArray.empty, rfl, hl, hm, fun e => (by cases e), ?_⟩
    by_cases h0 : l = 0
    · exact .inl h0
    · have hz' : ss.length = c := hz
      obtain ⟨b, off, spot⟩ := a
      have h00 := hcell 0 (by omega)
      have hspot : spot = none := by simpa [Addr.add] using World.cell?_spot h00
      subst hspot
      have h2 : ∀ i, i < l → w.cell? ⟨b, off + i, none⟩ = some (.string (ss.getD i ByteArray.empty)) := fun i hi => by
        have := hcell i (by omega)
        rwa [Go.WideShapes.add_plain] at this
      refine .inr ⟨b, off, rfl, lt_of_cell (h2 0 (by omega)), fun i hi j hj => ?_⟩
      have : j = 0 := by omega
      subst this
      rw [Nat.mul_one, Nat.add_zero]
      exact h2 i hi
end

end Go.Proofs.Qxb6605253a
