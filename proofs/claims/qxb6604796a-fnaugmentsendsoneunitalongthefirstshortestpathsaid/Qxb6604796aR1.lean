/-
  WALKS: zzBackwardReach, zzMeetModel.
-/
import Derived.Test.Qxb6604796aM4
import Derived.Deep.DeepCutAuto
import Derived.Deep.CutBlock
namespace Go.Proofs.Qxb6604796a
open Go.RowKit Mt

/-- How many of the first n are not set. -/
def falses (ρ : Nat → Bool) : Nat → Nat
  | 0 => 0
  | n + 1 => falses ρ n + (if ρ n = true then 0 else 1)

theorem falses_other {ρ : Nat → Bool} {u : Nat} : ∀ n, n ≤ u → falses (fun i => if i = u then true else ρ i) n = falses ρ n
  | 0, _ => rfl
  | n + 1, h => by rw [falses, falses, falses_other n (by omega), if_neg (show ¬ n = u by omega)]

theorem falses_set {ρ : Nat → Bool} {u : Nat} (h0 : ρ u = false) : ∀ n, u < n → falses (fun i => if i = u then true else ρ i) n + 1 = falses ρ n
  | 0, h => absurd h (Nat.not_lt_zero _)
  | n + 1, h => by
    rw [falses, falses]
    by_cases e : n = u
    · subst e
      rw [falses_other n (Nat.le_refl _)]
      simp [h0]
    · have := falses_set h0 n (by omega)
      simp only [e, if_false]
      omega

theorem falses_le (ρ : Nat → Bool) : ∀ n, falses ρ n ≤ n
  | 0 => Nat.le_refl _
  | n + 1 => by have := falses_le ρ n; rw [falses]; split <;> omega

theorem falses_zero {ρ : Nat → Bool} : ∀ n, falses ρ n = 0 → ∀ u, u < n → ρ u = true
  | 0, _, u, h => absurd h (Nat.not_lt_zero _)
  | n + 1, h, u, hu => by
    rw [falses] at h
    by_cases e : u = n
    · subst e
      by_cases g : ρ u = true
      · exact g
      · rw [if_neg g] at h; omega
    · exact falses_zero n (by omega) u (by omega)

/-- The two rows of bools: what is blocked, what is reached. -/
structure BR (w : World) (n : Nat) (β ρ : Nat → Bool) (wr : World) : Prop where
  below : Below w.heap.size w wr
  blk : wr.rowIs w.heap.size 4 n (fun i => .bool (β i))
  rch : wr.rowIs (w.heap.size + 1) 4 n (fun i => .bool (ρ i))

theorem BR.set {w : World} {n : Nat} {β ρ : Nat → Bool} {wr : World} (h : BR w n β ρ wr) (u : Nat) : BR w n β (fun i => if i = u then true else ρ i) (wr.setCell ⟨w.heap.size + 1, u, none⟩ (.bool true)) := by
  refine ⟨h.below.setCell (by show w.heap.size ≤ w.heap.size + 1; omega) _, h.blk.setOther (by show w.heap.size ≠ w.heap.size + 1; omega) _, (h.rch.set u _).congr fun i _ => ?_⟩
  by_cases e : i = u <;> simp [e]

/-- Only the first row. -/
structure B1 (w : World) (n : Nat) (β : Nat → Bool) (wr : World) : Prop where
  below : Below w.heap.size w wr
  size : wr.heap.size = w.heap.size + 1
  blk : wr.rowIs w.heap.size 4 n (fun i => .bool (β i))

theorem B1.set {w : World} {n : Nat} {β : Nat → Bool} {wr : World} (h : B1 w n β wr) (u : Nat) : B1 w n (fun i => if i = u then true else β i) (wr.setCell ⟨w.heap.size, u, none⟩ (.bool true)) := by
  refine ⟨h.below.setCell (Nat.le_refl _) _, by simp [World.setCell, h.size], (h.blk.set u _).congr fun i _ => ?_⟩
  by_cases e : i = u <;> simp [e]

theorem B1.start (w : World) (n : Nat) : B1 w n (fun _ => false) (w.alloc (.cells (madeCells #[.bool false] n) 4)) :=
  ⟨(Below.refl _ _).alloc (Nat.le_refl _) _, by simp, World.rowIs_made w _ _ _⟩

theorem B1.next {w : World} {n : Nat} {β : Nat → Bool} {wr : World} (h : B1 w n β wr) : BR w n β (fun _ => false) (wr.alloc (.cells (madeCells #[.bool false] n) 4)) := by
  refine ⟨h.below.alloc (by rw [h.size]; omega) _, h.blk.alloc _, ?_⟩
  have := World.rowIs_made wr (.bool false) n 4
  rwa [h.size] at this

/-- A row of bools that says P. -/
def Says (n : Nat) (β : Nat → Bool) (P : Nat → Prop) : Prop := ∀ u, u < n → (β u = true ↔ P u)

theorem Says.set {n : Nat} {β : Nat → Bool} {P Q : Nat → Prop} (h : Says n β P) (v : Nat) (hq : ∀ u, Q u ↔ (u = v ∨ P u)) : Says n (fun i => if i = v then true else β i) Q := by
  intro u hu
  rw [hq u]
  by_cases e : u = v
  · simp [e]
  · simp only [e, if_false, false_or]; exact h u hu

/-- The state of the rounds. -/
structure RI (n : Nat) (L : Nat → Nat) (Z : Nat → Nat → Int) (half blk : Nat → Prop) (ρ : Nat → Bool) (r : Nat) : Prop where
  hlf : ∀ u, half u → u < n ∧ ρ u = true
  sound : ∀ u, u < n → ρ u = true → Mt.Reach L Z half blk u
  few : falses ρ n + r ≤ n

/-- Closed at v for its first j links. -/
def Closed (Z : Nat → Nat → Int) (blk : Nat → Prop) (ρ : Nat → Bool) (v j : Nat) : Prop := ∀ i u, i < j → Z v i = ((u : Nat) : Int) → ¬ blk u → ρ u = true

theorem ri_final {n : Nat} {L : Nat → Nat} {Z : Nat → Nat → Int} {half blk : Nat → Prop} {ρ : Nat → Bool} {r : Nat} (I : RI n L Z half blk ρ r) (hin : ∀ v u, v < n → Mt.In L Z v u → u < n)
    (hc : r = n ∨ ∀ v, v < n → ρ v = true → Closed Z blk ρ v (L v)) : ∀ u, u < n → (ρ u = true ↔ Mt.Reach L Z half blk u) := by
  intro u hu
  refine ⟨I.sound u hu, fun h => ?_⟩
  rcases hc with rfl | hc
  · have := I.few
    exact falses_zero _ (by omega) u hu
  · have := Mt.Reach.least (S := fun u => u < n ∧ ρ u = true) I.hlf (fun v u ⟨hv, hv2⟩ hi hb => by
      have hun := hin v u hv hi
      obtain ⟨i, h1, h2⟩ := hi
      exact ⟨hun, hc v hv hv2 i u h1 h2 hb⟩) h
    exact this.2

end Go.Proofs.Qxb6604796a
