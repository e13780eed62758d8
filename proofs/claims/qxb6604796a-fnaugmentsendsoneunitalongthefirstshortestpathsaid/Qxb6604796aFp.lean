/-
  PLAIN: as many paths as a cut holds.
-/
import Derived.Test.Qxb6604796aAo
namespace Go.Proofs.Qxb6604796a
open Go.RowKit Af
set_option linter.unusedVariables false

/-- After t paths. -/
structure Flow6 (M : Nat) (hed : Nat → Nat) (sink ls : Nat) (st : Nat → Nat) (l0 : Nat → Int) (t : Nat) (l : Nat → Int) : Prop where
  pair : ∀ b, l b + l (x b) = l0 b + l0 (x b)
  nonneg : ∀ b, 0 ≤ l b
  cut : ∀ S : Nat → Bool, (∀ i, i < ls → S (st i) = true) → S sink = false → cutSum S hed l M = cutSum S hed l0 M - t

theorem Flow6.start {M : Nat} {hed : Nat → Nat} {sink ls : Nat} {st : Nat → Nat} {l0 : Nat → Int} (h : ∀ b, 0 ≤ l0 b) : Flow6 M hed sink ls st l0 0 l0 :=
  ⟨fun _ => rfl, h, fun S _ _ => by omega⟩

theorem Flow6.net {n M : Nat} {L : Nat → Nat} {arc : Nat → Nat → Nat} {hed : Nat → Nat} {sink ls : Nat} {st : Nat → Nat} {l0 l : Nat → Int} {t : Nat} (h : Flow6 M hed sink ls st l0 t l) (net : Net n M L arc hed sink l0) : Net n M L arc hed sink l :=
  ⟨net.even, net.tolt, net.arclt, net.tail, net.snk, h.nonneg, fun b => by rw [h.pair b]; exact net.pair b⟩

theorem Flow6.step {n M : Nat} {L : Nat → Nat} {arc : Nat → Nat → Nat} {hed : Nat → Nat} {sink ls : Nat} {st : Nat → Nat} {l0 l : Nat → Int} {t : Nat} (h : Flow6 M hed sink ls st l0 t l) (net : Net n M L arc hed sink l0)
    {k d : Nat} {bs : List Nat} {via' : Nat → Int} (hk : k < ls) (tr : Trail n L arc hed l sink (st k) via' d 0 bs sink) (po : PushOk hed l bs) : Flow6 M hed sink ls st l0 (t + 1) (bs.foldl push1 l) := by
  refine ⟨fun b => by rw [pushes_pair, h.pair], po.nonneg h.nonneg, fun S hS hs => ?_⟩
  rw [cut_pushes net.even bs l sink tr.ch fun a ha => by
    obtain ⟨v, i, h1, h2, h3⟩ := tr.lst a ha
    rw [← h3]; exact net.arclt v h1 i h2, h.cut S hS hs, hS k hk, hs]
  simp [ind]
  omega

theorem Flow6.bound {M : Nat} {hed : Nat → Nat} {sink ls : Nat} {st : Nat → Nat} {l0 l : Nat → Int} {t : Nat} (h : Flow6 M hed sink ls st l0 t l) (h0 : ∀ b, 0 ≤ l0 b) (hst : ∀ i, i < ls → st i ≠ sink) : (t : Int) ≤ sumTo l0 M := by
  have h1 := h.cut (fun u => decide (u ≠ sink)) (fun i hi => by simp [hst i hi]) (by simp)
  have h2 := @cut_nonneg (fun u => decide (u ≠ sink)) hed l M fun b _ => h.nonneg b
  have h3 := @cut_le_sum (fun u => decide (u ≠ sink)) hed l0 M fun b _ => h0 b
  omega

/-- STUCK: the paths are as many as the cut holds. -/
theorem Flow6.final {n M : Nat} {L : Nat → Nat} {arc : Nat → Nat → Nat} {hed : Nat → Nat} {sink ls : Nat} {st : Nat → Nat} {l0 l : Nat → Int} {t : Nat} (h : Flow6 M hed sink ls st l0 t l) (net : Net n M L arc hed sink l0)
    (all : ∀ a, a < M → ∃ v i, v < n ∧ i < L v ∧ arc v i = a) {S : Nat → Bool} (hS : ∀ i, i < ls → S (st i) = true) (hs : S sink = false)
    (hc : ∀ v, v < n → S v = true → ∀ i, i < L v → 0 < l (arc v i) → S (hed (arc v i)) = true) : cutSum S hed l0 M = t := by
  have h1 := h.cut S hS hs
  have h2 : cutSum S hed l M = 0 := cut_zero M fun b hb g1 g2 => by
    obtain ⟨v, i, hv, hi, e⟩ := all b hb
    have ht := net.tail v hv i hi
    rw [e] at ht
    rw [ht] at g1
    have := h.nonneg b
    by_cases g : 0 < l b
    · have := hc v hv g1 i hi (by rw [e]; exact g)
      rw [e, g2] at this; cases this
    · omega
  omega

end Go.Proofs.Qxb6604796a
