/-
  WALKS: the law's own body.
-/
import Derived.Test.Qxb6604250aW4
namespace Go.Proofs.Qxb6604250a
open Go.RowKit Ieee

theorem val_high : Fl.Val double highW ((Fl.units double.binade K1 : Nat) : Int) := Fl.val_word double false K1 (by decide)
theorem val_low : Fl.Val double lowW (-((Fl.units double.binade K1 : Nat) : Int)) := Fl.val_word double true K1 (by decide)

def leW (x y : Nat) : Bool := FloatKind.f64.format.order x y == some .lt || FloatKind.f64.format.order x y == some .eq
def ltW (x y : Nat) : Bool := FloatKind.f64.format.order x y == some .lt

theorem order_read (x y : Nat) : FloatKind.f64.format.order x y = (double.read x).order (double.read y) := rfl

theorem val_read {x : Nat} {z : Int} (h : Fl.Val double x z) : ∃ s m e, double.read x = .number s m e := by
  obtain ⟨s, m, e, _, h1, _⟩ := h
  exact ⟨s, m, e, h1⟩

theorem small_val {x : Nat} (h : small x = true) : ∃ z, Sm x z := by
  unfold small at h
  obtain ⟨s1, m1, e1, r1⟩ := val_read val_low
  obtain ⟨s2, m2, e2, r2⟩ := val_read val_high
  have hn : ∃ s m e, double.read x = .number s m e := by
    rw [order_read, order_read, r1, r2] at h
    cases hx : double.read x with
    | number s m e => exact ⟨s, m, e, rfl⟩
    | infinity s => rw [hx] at h; cases s <;> simp [Datum.order] at h
    | nan s f => rw [hx] at h; simp [Datum.order] at h
  obtain ⟨s, m, e, hx⟩ := hn
  obtain ⟨z, hz⟩ := Fl.val_of_number double (by decide) x hx
  refine ⟨z, hz, ?_⟩
  rw [order_eq hz val_low, order_eq hz val_high] at h
  generalize Fl.units double.binade K1 = u at *
  by_cases k1 : z < -(u : Int)
  · rw [if_pos k1] at h; simp at h
  · by_cases k2 : z < (u : Int)
    · omega
    · by_cases k3 : z = (u : Int)
      · omega
      · rw [if_neg k2, if_neg k3] at h; simp at h

theorem between {aT bT t1 t2 : Nat} {za zb : Int} (ha : Sm aT za) (hb : Sm bT zb) (h1 : leW aT t1 = true) (h2 : leW t1 t2 = true) (h3 : ltW t2 bT = true) :
    ∃ z1 z2, Sm t1 z1 ∧ Sm t2 z2 ∧ za ≤ z1 ∧ z1 ≤ z2 ∧ z2 < zb := by
  obtain ⟨s1, m1, e1, r1⟩ := val_read ha.1
  obtain ⟨s2, m2, e2, r2⟩ := val_read hb.1
  have hn : (∃ s m e, double.read t1 = .number s m e) ∧ (∃ s m e, double.read t2 = .number s m e) := by
    unfold leW at h1 h2
    unfold ltW at h3
    rw [order_read, r1] at h1
    rw [order_read] at h2
    rw [order_read, r2] at h3
    cases hx : double.read t1 with
    | number s m e =>
      refine ⟨⟨s, m, e, rfl⟩, ?_⟩
      cases hy : double.read t2 with
      | number s m e => exact ⟨s, m, e, rfl⟩
      | infinity s' => rw [hx, hy] at h2; rw [hy] at h3; cases s' <;> simp [Datum.order] at h2 h3
      | nan s' f => rw [hx, hy] at h2; simp [Datum.order] at h2
    | infinity s =>
      exfalso
      rw [hx] at h1 h2
      cases s with
      | true => simp [Datum.order] at h1
      | false =>
        cases hy : double.read t2 with
        | number s m e => rw [hy] at h2; simp [Datum.order] at h2
        | infinity s' => rw [hy] at h2 h3; cases s' <;> simp [Datum.order] at h3 h2; revert h2; decide
        | nan s' f => rw [hy] at h2; simp [Datum.order] at h2
    | nan s f => rw [hx] at h1; simp [Datum.order] at h1
  obtain ⟨⟨_, _, _, g1⟩, ⟨_, _, _, g2⟩⟩ := hn
  obtain ⟨z1, hz1⟩ := Fl.val_of_number double (by decide) t1 g1
  obtain ⟨z2, hz2⟩ := Fl.val_of_number double (by decide) t2 g2
  unfold leW at h1 h2
  unfold ltW at h3
  rw [order_eq ha.1 hz1] at h1
  rw [order_eq hz1 hz2] at h2
  rw [order_eq hz2 hb.1] at h3
  have k1 : za ≤ z1 := by
    by_cases k : za < z1
    · omega
    · by_cases k' : za = z1
      · omega
      · rw [if_neg k, if_neg k'] at h1; simp at h1
  have k2 : z1 ≤ z2 := by
    by_cases k : z1 < z2
    · omega
    · by_cases k' : z1 = z2
      · omega
      · rw [if_neg k, if_neg k'] at h2; simp at h2
  have k3 : z2 < zb := by
    by_cases k : z2 < zb
    · exact k
    · by_cases k' : z2 = zb
      · rw [if_neg k, if_pos k'] at h3; simp at h3
      · rw [if_neg k, if_neg k'] at h3; simp at h3
  have b1 := ha.2
  have b2 := hb.2
  exact ⟨z1, z2, ⟨hz1, by omega⟩, ⟨hz2, by omega⟩, k1, k2, k3⟩

end Go.Proofs.Qxb6604250a
