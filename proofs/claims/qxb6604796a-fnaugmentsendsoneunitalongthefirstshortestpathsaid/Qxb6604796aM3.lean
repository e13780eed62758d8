/-
  PLAIN AND MEMORY: the marks of 'meet' before its searches; what the searches begin with.
-/
import Derived.Test.Qxb6604796aM1
namespace Go.Proofs.Qxb6604796a
open Go.RowKit Mt

/-- Some of the first k is u. -/
def Pk (Z : Nat → Int) (k u : Nat) : Prop := ∃ i, i < k ∧ Z i = (u : Int)

theorem Pk.zero {Z : Nat → Int} {u : Nat} : ¬ Pk Z 0 u := fun ⟨_, h, _⟩ => absurd h (Nat.not_lt_zero _)

theorem Pk.succ {Z : Nat → Int} {k u v : Nat} (hv : Z k = (v : Int)) : Pk Z (k + 1) u ↔ (u = v ∨ Pk Z k u) := by
  constructor
  · rintro ⟨i, hi, e⟩
    by_cases h : i = k
    · subst h; left; rw [hv] at e; omega
    · exact .inr ⟨i, by omega, e⟩
  · rintro (rfl | ⟨i, hi, e⟩)
    · exact ⟨k, by omega, hv⟩
    · exact ⟨i, by omega, e⟩

/-- Reached (2), barred (3), neither (0). -/
def Mk (n : Nat) (t : Nat → Int) (P2 P3 : Nat → Prop) : Prop := ∀ u, u < n → (P2 u → t u = 2) ∧ (¬ P2 u → P3 u → t u = 3) ∧ (¬ P2 u → ¬ P3 u → t u = 0)

theorem Mk.congr {n : Nat} {t : Nat → Int} {P2 P3 P2' P3' : Nat → Prop} (h : Mk n t P2 P3) (e2 : ∀ u, P2' u ↔ P2 u) (e3 : ∀ u, P3' u ↔ P3 u) : Mk n t P2' P3' := by
  intro u hu
  rw [e2 u, e3 u]
  exact h u hu

theorem Mk.three {n : Nat} {t : Nat → Int} {P2 P3 : Nat → Prop} (h : Mk n t P2 P3) (hno : ∀ u, ¬ P2 u) (v : Nat) : Mk n (fun i => if i = v then 3 else t i) P2 (fun u => u = v ∨ P3 u) := by
  intro u hu
  obtain ⟨_, h2, h3⟩ := h u hu
  refine ⟨fun h => absurd h (hno u), fun _ h => ?_, fun _ h => ?_⟩
  · by_cases e : u = v
    · simp [e]
    · simp only [e, if_false]
      exact h2 (hno u) (h.resolve_left e)
  · have e : u ≠ v := fun e => h (.inl e)
    simp only [e, if_false]
    exact h3 (hno u) fun g => h (.inr g)

theorem Mk.two {n : Nat} {t : Nat → Int} {P2 P3 : Nat → Prop} (h : Mk n t P2 P3) (v : Nat) : Mk n (fun i => if i = v then 2 else t i) (fun u => u = v ∨ P2 u) P3 := by
  intro u hu
  obtain ⟨h1, h2, h3⟩ := h u hu
  by_cases e : u = v
  · subst e
    exact ⟨fun _ => by simp, fun h => absurd (.inl rfl) h, fun h => absurd (.inl rfl) h⟩
  · simp only [e, if_false, false_or]
    exact ⟨h1, h2, h3⟩

/-- One of two, by the side. -/
def two {α : Type} (x y : α) (s : Nat) : α := if s = 0 then x else y

theorem index_two (a1 a2 : Option Addr) (l1 c1 l2 c2 : Nat) (s : Nat) (hs : s < 2) (w : World) :
    (Instr.index 59 (.agg #[.slice a1 l1 c1, .slice a2 l2 c2]) (.int .i64 s)).run Try.prog w = .ok (.slice (two a1 a2 s) (two l1 l2 s) (two c1 c2 s)) w := by
  have : s = 0 ∨ s = 1 := by omega
  rcases this with rfl | rfl
  · show _ = Result.ok (Value.slice a1 l1 c1) w
    kernel_rfl
  · show _ = Result.ok (Value.slice a2 l2 c2) w
    kernel_rfl

theorem two_swap {α : Type} (x y : α) {s : Nat} (hs : s < 2) : two y x s = two x y (1 - s) := by
  have : s = 0 ∨ s = 1 := by omega
  rcases this with rfl | rfl <;> rfl

/-- The nodes of a list of ints. -/
def nodes (Z : Nat → Int) (l : Nat) : List Nat := (List.range l).map fun i => (Z i).toNat

theorem nodes_length (Z : Nat → Int) (l : Nat) : (nodes Z l).length = l := by simp [nodes]

theorem mem_nodes {Z : Nat → Int} {l u n : Nat} (hz : ∀ i, i < l → 0 ≤ Z i ∧ Z i < n) : u ∈ nodes Z l ↔ Pk Z l u := by
  unfold nodes Pk
  rw [List.mem_map]
  constructor
  · rintro ⟨i, hi, rfl⟩
    have hi' : i < l := by simpa using hi
    exact ⟨i, hi', by have := hz i hi'; omega⟩
  · rintro ⟨i, hi, e⟩
    exact ⟨i, by simpa using hi, by omega⟩

/-- What one side begins with. -/
def Begun (n : Nat) (Zh Zo Z3 : Nat → Int) (lh lo l3 : Nat) (t : Nat → Int) (q : List Nat) : Prop :=
  Mk n t (Pk Zh lh) (fun u => Pk Zo lo u ∨ Pk Z3 l3 u) ∧ q = nodes Zh lh

/-- The halves, and what each side must not enter. -/
def half (l1 l2 : Nat) (Z1 Z2 : Nat → Int) (s u : Nat) : Prop := Pk (two Z1 Z2 s) (two l1 l2 s) u
def blk (l1 l2 l3 : Nat) (Z1 Z2 Z3 : Nat → Int) (s u : Nat) : Prop := Pk (two Z1 Z2 (1 - s)) (two l1 l2 (1 - s)) u ∨ Pk Z3 l3 u

theorem zeros_half {n : Nat} {t : Nat → Int} : zeros t n ≤ n := zeros_le t n

/-- THE SEARCHES' INVARIANT, AT THEIR START. -/
theorem begun_inv {n : Nat} {L : Nat → Nat} {Z : Nat → Nat → Int} {l1 l2 l3 : Nat} {Z1 Z2 Z3 : Nat → Int} {t : Nat → Nat → Int} {q : Nat → List Nat} (d : Dom n L Z l1 Z1 l2 Z2 l3 Z3)
    (h : ∀ s, s < 2 → Begun n (two Z1 Z2 s) (two Z1 Z2 (1 - s)) Z3 (two l1 l2 s) (two l1 l2 (1 - s)) l3 (t s) (q s)) :
    Inv n L Z (half l1 l2 Z1 Z2) (blk l1 l2 l3 Z1 Z2 Z3) (two l1 l2) t q (fun _ => 0) := by
  have rng : ∀ s, s < 2 → ∀ i, i < two l1 l2 s → 0 ≤ two Z1 Z2 s i ∧ two Z1 Z2 s i < n := by
    intro s hs i hi
    have : s = 0 ∨ s = 1 := by omega
    rcases this with rfl | rfl
    · exact d.one i hi
    · exact d.other i hi
  have hlt : ∀ s, s < 2 → ∀ u, half l1 l2 Z1 Z2 s u → u < n := by
    rintro s hs u ⟨i, hi, e⟩
    have := rng s hs i hi
    omega
  have disj : ∀ s, s < 2 → ∀ u, half l1 l2 Z1 Z2 s u → blk l1 l2 l3 Z1 Z2 Z3 s u → False := by
    rintro s hs u ⟨i, hi, e⟩ hb
    have : s = 0 ∨ s = 1 := by omega
    rcases this with rfl | rfl
    · rcases hb with ⟨j, hj, e2⟩ | ⟨j, hj, e2⟩
      · exact d.otherOne j hj i hi (e2.trans e.symm)
      · exact d.oneCrashed i hi j hj (e.trans e2.symm)
    · rcases hb with ⟨j, hj, e2⟩ | ⟨j, hj, e2⟩
      · exact d.otherOne i hi j hj (e.trans e2.symm)
      · exact d.otherCrashed i hi j hj (e.trans e2.symm)
  have mk : ∀ s, s < 2 → ∀ u, u < n → (half l1 l2 Z1 Z2 s u → t s u = 2) ∧ (¬ half l1 l2 Z1 Z2 s u → blk l1 l2 l3 Z1 Z2 Z3 s u → t s u = 3) ∧ (¬ half l1 l2 Z1 Z2 s u → ¬ blk l1 l2 l3 Z1 Z2 Z3 s u → t s u = 0) := fun s hs u hu => (h s hs).1 u hu
  have two' : ∀ s, s < 2 → ∀ u, u < n → (t s u = 2 → half l1 l2 Z1 Z2 s u) := by
    intro s hs u hu ht
    obtain ⟨_, g2, g3⟩ := mk s hs u hu
    refine Classical.byContradiction fun hno => ?_
    by_cases hb : blk l1 l2 l3 Z1 Z2 Z3 s u
    · have := g2 hno hb; omega
    · have := g3 hno hb; omega
  refine ⟨?_, ?_, ?_, ?_, ?_, ?_, ?_, ?_, ?_, ?_⟩
  · intro s hs u hu
    obtain ⟨g1, g2, g3⟩ := mk s hs u hu
    by_cases h1 : half l1 l2 Z1 Z2 s u
    · exact .inr (.inl (g1 h1))
    · by_cases h2 : blk l1 l2 l3 Z1 Z2 Z3 s u
      · exact .inr (.inr (g2 h1 h2))
      · exact .inl (g3 h1 h2)
  · intro s hs u hu
    obtain ⟨g1, g2, g3⟩ := mk s hs u hu
    constructor
    · intro ht
      by_cases h1 : half l1 l2 Z1 Z2 s u
      · have := g1 h1; omega
      · refine Classical.byContradiction fun h2 => ?_
        have := g3 h1 h2; omega
    · intro hb
      exact g2 (fun h1 => disj s hs u h1 hb) hb
  · intro s hs u hu ht
    exact Reach.start (two' s hs u hu ht)
  · intro s hs u hu
    have := hlt s hs u hu
    exact ⟨this, (mk s hs u this).1 hu⟩
  · intro s hs u hu
    rw [(h s hs).2, mem_nodes (rng s hs)] at hu
    have := hlt s hs u hu
    exact ⟨this, (mk s hs u this).1 hu⟩
  · intro s hs u hu ht
    rw [(h s hs).2, mem_nodes (rng s hs)]
    exact two' s hs u hu ht
  · intro s hs i v hi
    exact absurd hi (Nat.not_lt_zero _)
  · intro s hs
    exact Nat.zero_le _
  · intro u hu h0 h1
    obtain ⟨i, hi, e⟩ := two' 0 (by omega) u hu h0
    obtain ⟨j, hj, e2⟩ := two' 1 (by omega) u hu h1
    exact d.otherOne j hj i hi (e2.trans e.symm)
  · intro s hs
    rw [(h s hs).2, nodes_length]
    have := zeros_le (t s) n
    omega

end Go.Proofs.Qxb6604796a
