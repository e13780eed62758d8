/-
  PLAIN: a straight line between two samples, reckoned in floats, never goes back. Nothing of the program in here.
-/
import Derived.Test.Qxb6604250aFlOps
namespace Go.Proofs.Qxb6604250a.Fl
open Ieee

theorem Val.unique {f : Format} {x : Nat} {z z' : Int} (h : Val f x z) (h' : Val f x z') : z = z' := by
  obtain ⟨s, m, e, r, h1, _, _, _, rfl⟩ := h
  obtain ⟨s', m', e', r', h1', _, _, _, rfl⟩ := h'
  rw [h1] at h1'
  cases h1'
  rfl

theorem rz_units (f : Format) (K : Nat) : RZ f (units f.binade K : Nat) 1 (units f.binade K : Nat) :=
  ⟨K, by simp, by simpa using rnd_units _ _ (binade_pos f), fun h => h, fun h => h⟩

theorem rz_neg_units (f : Format) (K : Nat) : RZ f (-((units f.binade K : Nat) : Int)) 1 (-((units f.binade K : Nat) : Int)) :=
  ⟨K, by simp, by simpa using rnd_units _ _ (binade_pos f), fun h => h, fun h => h⟩

theorem rz_zero (f : Format) (q : Nat) (hq : 0 < q) : RZ f 0 q 0 :=
  ⟨0, by rw [units_zero _ (binade_pos f)]; rfl, by simpa using rnd_zero _ _ (binade_pos f) hq, fun h => h, fun h => h⟩

/-- What is rounded stays within what a rung bounds. -/
theorem RZ.bound {f : Format} {n z : Int} {q K : Nat} (hq : 0 < q) (h : RZ f n q z) (hn : n.natAbs ≤ units f.binade K * q) : z.natAbs ≤ units f.binade K := by
  have hn' : (n.natAbs : Int) ≤ (units f.binade K : Int) * (q : Int) := by
    have := Int.ofNat_le.2 hn
    rwa [Int.natCast_mul] at this
  have h1 : z ≤ ((units f.binade K : Nat) : Int) := RZ.mono hq (by omega) h (rz_units f K) (by omega)
  have h2 : -((units f.binade K : Nat) : Int) ≤ z := RZ.mono (by omega) hq (rz_neg_units f K) h (by rw [Int.neg_mul]; omega)
  omega

/-- The way along a segment, the fraction being 'zf' units: 'zg'. -/
def Way (f : Format) (zx zdx zf zg : Int) : Prop := ∃ zp, RZ f (zf * zdx) (one f) zp ∧ RZ f (zx + zp) 1 zg

theorem one_pos (f : Format) : 0 < one f := Nat.two_pow_pos _

theorem Way.up {f : Format} {zx zdx f1 f2 g1 g2 : Int} (h1 : Way f zx zdx f1 g1) (h2 : Way f zx zdx f2 g2) (h : f1 ≤ f2) (hd : 0 ≤ zdx) : g1 ≤ g2 := by
  obtain ⟨p1, a1, b1⟩ := h1
  obtain ⟨p2, a2, b2⟩ := h2
  have hp : (0 : Int) ≤ (one f : Int) := by have := one_pos f; omega
  have hm : f1 * zdx ≤ f2 * zdx := Int.mul_le_mul_of_nonneg_right h hd
  have h3 : p1 ≤ p2 := RZ.mono (one_pos f) (one_pos f) a1 a2 (Int.mul_le_mul_of_nonneg_right hm hp)
  exact RZ.mono (by omega) (by omega) b1 b2 (by omega)

theorem Way.down {f : Format} {zx zdx f1 f2 g1 g2 : Int} (h1 : Way f zx zdx f1 g1) (h2 : Way f zx zdx f2 g2) (h : f1 ≤ f2) (hd : zdx ≤ 0) : g2 ≤ g1 := by
  obtain ⟨p1, a1, b1⟩ := h1
  obtain ⟨p2, a2, b2⟩ := h2
  have hp : (0 : Int) ≤ (one f : Int) := by have := one_pos f; omega
  have hm : f2 * zdx ≤ f1 * zdx := Int.mul_le_mul_of_nonpos_right h hd
  have h3 : p2 ≤ p1 := RZ.mono (one_pos f) (one_pos f) a2 a1 (Int.mul_le_mul_of_nonneg_right hm hp)
  exact RZ.mono (by omega) (by omega) b2 b1 (by omega)

theorem Way.start {f : Format} {x : Nat} {zx : Int} (hx : Val f x zx) (zdx : Int) : Way f zx zdx 0 zx :=
  ⟨0, by rw [Int.zero_mul]; exact rz_zero f _ (one_pos f), by rw [Int.add_zero]; exact hx.exact⟩

/-- The rungs that bound what is reckoned: the inputs, their differences, one, the sums. -/
structure Bounds (f : Format) (K0 K1 K2 K3 : Nat) : Prop where
  least : f.leastPlace ≤ 0
  k0 : K0 < f.infRung
  k2 : K2 < f.infRung
  k3 : K3 < f.infRung
  one : units f.binade K0 = one f
  two : 2 * units f.binade K1 ≤ units f.binade K2
  three : units f.binade K1 + units f.binade K2 ≤ units f.binade K3

section
variable {f : Format} {K0 K1 K2 K3 : Nat} (hb : Bounds f K0 K1 K2 K3)

theorem diff (hb : Bounds f K0 K1 K2 K3) {x y : Nat} {zx zy : Int} (hx : Val f x zx) (hy : Val f y zy) (bx : zx.natAbs ≤ units f.binade K1) (b_y : zy.natAbs ≤ units f.binade K1) :
    ∃ d zd, f.sub y x = some d ∧ Val f d zd ∧ RZ f (zy - zx) 1 zd ∧ zd.natAbs ≤ units f.binade K2 := by
  have hle : (zy - zx).natAbs ≤ units f.binade K2 := by have := hb.two; omega
  obtain ⟨w, z, h1, h2, h3⟩ := sub_val hy hx K2 hb.k2 hle
  exact ⟨w, z, h1, h2, h3, RZ.bound (by omega) h3 (by omega)⟩

/-- The fraction of a segment: it is there, it lies between nought and one. -/
theorem frac (hb : Bounds f K0 K1 K2 K3) {d D : Nat} {zd zD : Int} (hd : Val f d zd) (hD : Val f D zD) (h0 : 0 ≤ zd) (h1 : zd ≤ zD) (hpos : 0 < zD) :
    ∃ q zf, f.div d D = some q ∧ Val f q zf ∧ RZ f (zd * (one f : Int)) zD.natAbs zf ∧ 0 ≤ zf ∧ zf ≤ (one f : Int) := by
  have e1 : (zd * (one f : Int)).natAbs = zd.natAbs * one f := by rw [Int.natAbs_mul, Int.natAbs_natCast]
  have hle : (zd * (one f : Int)).natAbs ≤ units f.binade K0 * zD.natAbs := by
    rw [e1, hb.one, Nat.mul_comm]
    exact Nat.mul_le_mul_left _ (by omega)
  obtain ⟨w, z, g1, g2, g3⟩ := div_val hb.least hd hD hpos K0 hb.k0 hle
  have g4 := RZ.bound (by omega) g3 hle
  have g5 : 0 ≤ z := by
    obtain ⟨_, _, _, c, _⟩ := g3
    exact c (Int.mul_nonneg h0 (by omega))
  rw [hb.one] at g4
  exact ⟨w, z, g1, g2, g3, g5, by omega⟩

theorem frac_mono {zd1 zd2 zf1 zf2 : Int} {q : Nat} (hq : 0 < q) (h1 : RZ f (zd1 * (one f : Int)) q zf1) (h2 : RZ f (zd2 * (one f : Int)) q zf2) (h : zd1 ≤ zd2) : zf1 ≤ zf2 := by
  have hp : (0 : Int) ≤ (one f : Int) := by have := one_pos f; omega
  exact RZ.mono hq hq h1 h2 (Int.mul_le_mul_of_nonneg_right (Int.mul_le_mul_of_nonneg_right h hp) (by omega))

/-- The point of a segment. -/
theorem point (hb : Bounds f K0 K1 K2 K3) {x dx q : Nat} {zx zdx zf : Int} (hx : Val f x zx) (hdx : Val f dx zdx) (hq : Val f q zf) (bx : zx.natAbs ≤ units f.binade K1) (bd : zdx.natAbs ≤ units f.binade K2)
    (h0 : 0 ≤ zf) (h1 : zf ≤ (one f : Int)) :
    ∃ p g zg, f.mul q dx = some p ∧ f.add x p = some g ∧ Val f g zg ∧ Way f zx zdx zf zg := by
  have hm : (zf * zdx).natAbs ≤ units f.binade K2 * one f := by
    rw [Int.natAbs_mul, Nat.mul_comm]
    exact Nat.mul_le_mul bd (by omega)
  obtain ⟨p, zp, g1, g2, g3⟩ := mul_val hb.least hq hdx K2 hb.k2 hm
  have g4 := RZ.bound (one_pos f) g3 hm
  have hs : (zx + zp).natAbs ≤ units f.binade K3 := by have := hb.three; omega
  obtain ⟨g, zg, k1, k2, k3⟩ := add_val hx g2 K3 hb.k3 hs
  exact ⟨p, g, zg, g1, k1, k2, zp, g3, k3⟩
end

/-- A finite word less itself is a zero. -/
theorem sub_self {f : Format} {x : Nat} {z : Int} (hx : Val f x z) (hi : 0 < f.infRung) : ∃ d, f.sub x x = some d ∧ Val f d 0 := by
  obtain ⟨d, zd, h1, h2, h3⟩ := sub_val hx hx 0 hi (by simp)
  rw [Int.sub_self] at h3
  have : zd = 0 := by
    obtain ⟨_, _, _, c1, c2⟩ := h3
    have := c1 (Int.le_refl _); have := c2 (Int.le_refl _); omega
  subst this
  exact ⟨d, h1, h2⟩

theorem units_pow (B j : Nat) (hB : 0 < B) : units B ((j + 1) * B) = B * 2 ^ j := by
  unfold units
  rw [if_neg (by rw [Nat.add_mul]; omega), Nat.mul_mod_left, Nat.mul_div_cancel _ hB]
  rfl

/-! ### float64 -/

theorem double_binade : double.binade = 2 ^ 52 := by decide
theorem double_inf : double.infRung = 2047 * 2 ^ 52 := by decide

set_option exponentiation.threshold 5000 in
theorem bounds_double : Bounds double (1023 * 2 ^ 52) (2023 * 2 ^ 52) (2024 * 2 ^ 52) (2025 * 2 ^ 52) where
  least := by decide
  k0 := by rw [double_inf]; exact Nat.mul_lt_mul_of_pos_right (by decide) (Nat.two_pow_pos _)
  k2 := by rw [double_inf]; exact Nat.mul_lt_mul_of_pos_right (by decide) (Nat.two_pow_pos _)
  k3 := by rw [double_inf]; exact Nat.mul_lt_mul_of_pos_right (by decide) (Nat.two_pow_pos _)
  one := by
    rw [double_binade, show (1023 : Nat) = 1022 + 1 from rfl, units_pow _ _ (Nat.two_pow_pos _)]
    unfold Fl.one
    rw [show (-double.leastPlace).toNat = 52 + 1022 by decide, Nat.pow_add]
  two := by
    rw [double_binade, show (2023 : Nat) = 2022 + 1 from rfl, show (2024 : Nat) = 2023 + 1 from rfl, units_pow _ _ (Nat.two_pow_pos _), units_pow _ _ (Nat.two_pow_pos _), Nat.pow_succ 2 2022]
    generalize 2 ^ 2022 = y
    generalize 2 ^ 52 = x
    exact Nat.le_of_eq (by ac_rfl)
  three := by
    rw [double_binade, show (2023 : Nat) = 2022 + 1 from rfl, show (2024 : Nat) = 2023 + 1 from rfl, show (2025 : Nat) = 2024 + 1 from rfl, units_pow _ _ (Nat.two_pow_pos _), units_pow _ _ (Nat.two_pow_pos _), units_pow _ _ (Nat.two_pow_pos _), Nat.pow_succ 2 2023, Nat.pow_succ 2 2022, ← Nat.mul_add]
    refine Nat.mul_le_mul_left _ ?_
    generalize 2 ^ 2022 = y
    omega

end Go.Proofs.Qxb6604250a.Fl
