/-
  FROM zzFlowDomain's TEST TO THE NETWORK.
-/
import Derived.Test.Qxb6604796aFd
import Derived.Test.Qxb6604796aFn
import Derived.Test.Qxb6604796aFp
namespace Go.Proofs.Qxb6604796a
open Go.RowKit Af
set_option linter.unusedVariables false

theorem IRow.congr {w : World} {lo hi : Nat} {a : Option Addr} {l : Nat} {Z Z' : Nat → Int} (h : IRow w lo hi a l Z) (e : ∀ i, i < l → Z i = Z' i) : IRow w lo hi a l Z' := by
  rcases h with h | ⟨b, o, g1, g2, g3, g4⟩
  · exact .inl h
  · exact .inr ⟨b, o, g1, g2, g3, fun i hi => by rw [← e i hi]; exact g4 i hi⟩

theorem IRows.congr {w : World} {lo hi : Nat} {a : Option Addr} {l : Nat} {A : Nat → Option Addr} {L C : Nat → Nat} {Z Z' : Nat → Nat → Int} (h : IRows w lo hi a l A L C Z) (e : ∀ v, v < l → ∀ i, i < L v → Z v i = Z' v i) : IRows w lo hi a l A L C Z' := by
  rcases h with h | ⟨b, o, g1, g2, g3, g4⟩
  · exact .inl h
  · refine .inr ⟨b, o, g1, g2, g3, fun v hv => ?_⟩
    obtain ⟨c1, c2, c3, c4⟩ := g4 v hv
    exact ⟨c1, c2, c3, c4.congr (e v hv)⟩

/-- The capacities, nothing beyond the arcs. -/
def caps (F : Nat → Int) (M b : Nat) : Int := if b < M then F b else 0

theorem x_ge {b M : Nat} (h : ¬ b < M) (hM : M % 2 = 0) : ¬ x b < M := fun g => h (by have := x_lt g hM; rwa [x_x] at this)

section
variable {n M : Nat} {L : Nat → Nat} {Z : Nat → Nat → Int} {T F : Nat → Int} {l1 ls : Nat} {S : Nat → Int} {sink : Int} {all : Bool}

theorem FDom.tto (d : FDom n M L Z T F l1 ls S sink all) : ∀ a, a < M → T a = (((T a).toNat : Nat) : Int) := fun a ha => by have := d.hed a ha; omega
theorem FDom.zz (d : FDom n M L Z T F l1 ls S sink all) : ∀ v, v < n → ∀ i, i < L v → Z v i = (((Z v i).toNat : Nat) : Int) := fun v hv i hi => by obtain ⟨a, h, _⟩ := d.arcs v hv i hi; omega
theorem FDom.ss (d : FDom n M L Z T F l1 ls S sink all) : ∀ i, i < ls → S i = (((S i).toNat : Nat) : Int) := fun i hi => by have := d.starts i hi; omega

theorem FDom.net (d : FDom n M L Z T F l1 ls S sink all) : Net n M L (fun v i => (Z v i).toNat) (fun a => (T a).toNat) sink.toNat (caps F M) := by
  refine ⟨d.even, fun a ha => ?_, fun v hv i hi => ?_, fun v hv i hi => ?_, ?_, fun b => ?_, fun b => ?_⟩
  · have := d.hed a ha; omega
  · obtain ⟨a, h1, h2, _⟩ := d.arcs v hv i hi; omega
  · obtain ⟨a, h1, h2, h3⟩ := d.arcs v hv i hi
    have : (Z v i).toNat = a := by omega
    rw [this, h3]; omega
  · have := d.snk; omega
  · unfold caps; split
    · rename_i h; exact (d.cap b h).1
    · exact Int.le_refl _
  · unfold caps
    by_cases h : b < M
    · rw [if_pos h, if_pos (x_lt h d.even)]; exact (d.cap b h).2
    · rw [if_neg h, if_neg (x_ge h d.even)]; omega

theorem FDom.listed (d : FDom n M L Z T F l1 ls S sink all) (h : all = true) : ∀ a, a < M → ∃ v i, v < n ∧ i < L v ∧ (Z v i).toNat = a := fun a ha => by
  obtain ⟨v, i, h1, h2, h3⟩ := d.all h a ha
  exact ⟨v, i, h1, h2, by omega⟩

theorem FDom.starts' (d : FDom n M L Z T F l1 ls S sink all) : ∀ i, i < ls → (S i).toNat < n ∧ (S i).toNat ≠ sink.toNat := fun i hi => by
  have := d.starts i hi
  have := d.snk
  omega
end

end Go.Proofs.Qxb6604796a
