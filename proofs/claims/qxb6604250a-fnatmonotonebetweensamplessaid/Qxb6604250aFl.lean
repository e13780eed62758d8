/-
  PLAIN: rounding to nearest, ties to even, is monotone. Nothing of the program in here.
-/
import Ieee.Arith
namespace Go.Proofs.Qxb6604250a.Fl
open Ieee

/-- 'p / q' to the nearest whole number, ties to even. -/
def rhe (p q : Nat) : Nat := p / q + (if q < 2 * (p % q) ∨ (q = 2 * (p % q) ∧ p / q % 2 = 1) then 1 else 0)

theorem rhe_le_iff (p q c : Nat) (hq : 0 < q) :
    rhe p q ≤ c ↔ 2 * p < (2 * c + 1) * q ∨ (2 * p = (2 * c + 1) * q ∧ c % 2 = 0) := by
  have hp : q * (p / q) + p % q = p := Nat.div_add_mod p q
  have hr : p % q < q := Nat.mod_lt _ hq
  unfold rhe
  generalize p / q = l at *
  generalize p % q = r at *
  have e1 : (2 * c + 1) * q = 2 * (q * c) + q := by rw [Nat.add_mul, Nat.one_mul, Nat.mul_assoc, Nat.mul_comm c q]
  rw [e1]
  rcases Nat.lt_trichotomy l c with h | h | h
  · have : q * l + q ≤ q * c := by
      have := Nat.mul_le_mul_left q (show l + 1 ≤ c from h)
      rw [Nat.mul_add, Nat.mul_one] at this; exact this
    split <;> omega
  · subst h
    split <;> omega
  · have : q * c + q ≤ q * l := by
      have := Nat.mul_le_mul_left q (show c + 1 ≤ l from h)
      rw [Nat.mul_add, Nat.mul_one] at this; exact this
    split <;> omega

theorem rhe_mono {p1 q1 p2 q2 : Nat} (h1 : 0 < q1) (h2 : 0 < q2) (h : p1 * q2 ≤ p2 * q1) : rhe p1 q1 ≤ rhe p2 q2 := by
  have hc := (rhe_le_iff p2 q2 (rhe p2 q2) h2).1 (Nat.le_refl _)
  rw [rhe_le_iff p1 q1 _ h1]
  generalize rhe p2 q2 = c at *
  have e1 : (2 * c + 1) * q1 * q2 = (2 * c + 1) * q2 * q1 := by rw [Nat.mul_assoc, Nat.mul_comm q1, ← Nat.mul_assoc]
  rcases hc with hc | ⟨hc, he⟩
  · left
    have h3 : 2 * p2 * q1 < (2 * c + 1) * q2 * q1 := Nat.mul_lt_mul_of_pos_right hc h1
    have h4 : 2 * p1 * q2 ≤ 2 * p2 * q1 := by rw [Nat.mul_assoc, Nat.mul_assoc]; omega
    have h5 : 2 * p1 * q2 < (2 * c + 1) * q1 * q2 := by rw [e1]; omega
    exact Nat.lt_of_mul_lt_mul_right h5
  · have h3 : 2 * p2 * q1 = (2 * c + 1) * q2 * q1 := by rw [hc]
    have h4 : 2 * p1 * q2 ≤ 2 * p2 * q1 := by rw [Nat.mul_assoc, Nat.mul_assoc]; omega
    have h5 : 2 * p1 * q2 ≤ (2 * c + 1) * q1 * q2 := by rw [e1]; omega
    have h6 : 2 * p1 ≤ (2 * c + 1) * q1 := Nat.le_of_mul_le_mul_right h5 h2
    rcases Nat.lt_or_eq_of_le h6 with h7 | h7
    · exact Or.inl h7
    · exact Or.inr ⟨h7, he⟩

theorem rhe_congr {p1 q1 p2 q2 : Nat} (h1 : 0 < q1) (h2 : 0 < q2) (h : p1 * q2 = p2 * q1) : rhe p1 q1 = rhe p2 q2 :=
  Nat.le_antisymm (rhe_mono h1 h2 (Nat.le_of_eq h)) (rhe_mono h2 h1 (Nat.le_of_eq h.symm))

theorem rhe_one (p : Nat) : rhe p 1 = p := by simp [rhe, Nat.mod_one]

theorem rhe_mul (m q : Nat) (hq : 0 < q) : rhe (m * q) q = m := by
  have := rhe_congr (p1 := m * q) (q1 := q) (p2 := m) (q2 := 1) hq (by omega) (by omega)
  rw [this, rhe_one]

/-- The rung 'r' that 'P / Q' units (of the least place) round to, 'B' rungs a binade. -/
def Rnd (B P Q r : Nat) : Prop := ∃ l, P < 2 * B * 2 ^ l * Q ∧ (l = 0 ∨ B * 2 ^ l * Q ≤ P) ∧ r = l * B + rhe P (Q * 2 ^ l)

theorem rhe_le_of_lt {p q c : Nat} (hq : 0 < q) (h : p ≤ c * q) : rhe p q ≤ c := by
  rw [rhe_le_iff _ _ _ hq]
  left
  rw [Nat.add_mul, Nat.mul_assoc]; omega

theorem le_rhe_of_le {p q c : Nat} (hq : 0 < q) (h : c * q ≤ p) : c ≤ rhe p q := by
  unfold rhe
  have : c ≤ p / q := (Nat.le_div_iff_mul_le hq).2 h
  omega

theorem Rnd.mono {B P1 Q1 r1 P2 Q2 r2 : Nat} (hq1 : 0 < Q1) (hq2 : 0 < Q2) (h1 : Rnd B P1 Q1 r1) (h2 : Rnd B P2 Q2 r2)
    (h : P1 * Q2 ≤ P2 * Q1) : r1 ≤ r2 := by
  obtain ⟨l1, a1, b1, rfl⟩ := h1
  obtain ⟨l2, a2, b2, rfl⟩ := h2
  rcases Nat.lt_trichotomy l1 l2 with hl | hl | hl
  · have c1 : rhe P1 (Q1 * 2 ^ l1) ≤ 2 * B := by
      refine rhe_le_of_lt (Nat.mul_pos hq1 (Nat.two_pow_pos _)) ?_
      rw [Nat.mul_comm Q1, ← Nat.mul_assoc]; omega
    have c2 : B ≤ rhe P2 (Q2 * 2 ^ l2) := by
      refine le_rhe_of_le (Nat.mul_pos hq2 (Nat.two_pow_pos _)) ?_
      rw [Nat.mul_comm Q2, ← Nat.mul_assoc]
      rcases b2 with b2 | b2
      · omega
      · exact b2
    have c3 : (l1 + 1) * B ≤ l2 * B := Nat.mul_le_mul_right _ hl
    rw [Nat.add_mul, Nat.one_mul] at c3
    omega
  · subst hl
    refine Nat.add_le_add_left (rhe_mono (Nat.mul_pos hq1 (Nat.two_pow_pos _)) (Nat.mul_pos hq2 (Nat.two_pow_pos _)) ?_) _
    rw [← Nat.mul_assoc, ← Nat.mul_assoc]
    exact Nat.mul_le_mul_right _ h
  · exfalso
    have b1' : B * 2 ^ l1 * Q1 ≤ P1 := by
      rcases b1 with b1 | b1
      · omega
      · exact b1
    have d1 : B * 2 ^ l1 * Q1 * Q2 ≤ P1 * Q2 := Nat.mul_le_mul_right _ b1'
    have d2 : P2 * Q1 < 2 * B * 2 ^ l2 * Q2 * Q1 := Nat.mul_lt_mul_of_pos_right a2 hq1
    have d3 : 2 * B * 2 ^ l2 ≤ B * 2 ^ l1 := by
      have : 2 ^ (l2 + 1) ≤ 2 ^ l1 := Nat.pow_le_pow_right (by omega) hl
      have := Nat.mul_le_mul_left B this
      rw [Nat.pow_succ] at this
      calc 2 * B * 2 ^ l2 = B * (2 ^ l2 * 2) := by rw [Nat.mul_comm 2 B, Nat.mul_assoc, Nat.mul_comm 2]
        _ ≤ _ := this
    have d4 : 2 * B * 2 ^ l2 * Q2 * Q1 ≤ B * 2 ^ l1 * Q1 * Q2 := by
      rw [Nat.mul_assoc, Nat.mul_assoc (B * 2 ^ l1), Nat.mul_comm Q2]
      exact Nat.mul_le_mul_right _ d3
    omega

theorem Rnd.congr {B P1 Q1 r P2 Q2 : Nat} (hq1 : 0 < Q1) (hq2 : 0 < Q2) (h1 : Rnd B P1 Q1 r) (h : P1 * Q2 = P2 * Q1) : Rnd B P2 Q2 r := by
  obtain ⟨l, a, b, rfl⟩ := h1
  refine ⟨l, ?_, ?_, ?_⟩
  · have : P1 * Q2 < 2 * B * 2 ^ l * Q1 * Q2 := Nat.mul_lt_mul_of_pos_right a hq2
    rw [h, Nat.mul_assoc, Nat.mul_comm Q1, ← Nat.mul_assoc] at this
    exact Nat.lt_of_mul_lt_mul_right this
  · rcases b with b | b
    · exact Or.inl b
    · right
      have : B * 2 ^ l * Q1 * Q2 ≤ P1 * Q2 := Nat.mul_le_mul_right _ b
      rw [h, Nat.mul_assoc, Nat.mul_comm Q1, ← Nat.mul_assoc] at this
      exact Nat.le_of_mul_le_mul_right this hq1
  · have e := rhe_congr (p1 := P1) (q1 := Q1 * 2 ^ l) (p2 := P2) (q2 := Q2 * 2 ^ l) (Nat.mul_pos hq1 (Nat.two_pow_pos _)) (Nat.mul_pos hq2 (Nat.two_pow_pos _)) (by rw [← Nat.mul_assoc, ← Nat.mul_assoc, h])
    rw [e]

/-- The number of units of the least place at rung 'r'. -/
def units (B r : Nat) : Nat := if r < B then r else (B + r % B) * 2 ^ (r / B - 1)

theorem rnd_units (B r : Nat) (hB : 0 < B) : Rnd B (units B r) 1 r := by
  unfold units
  split
  · rename_i h
    exact ⟨0, by simp; omega, Or.inl rfl, by simp [rhe_one]⟩
  · rename_i h
    have hm : r % B < B := Nat.mod_lt _ hB
    have hd : B * (r / B) + r % B = r := Nat.div_add_mod r B
    have h1 : 1 ≤ r / B := (Nat.one_le_div_iff hB).2 (by omega)
    refine ⟨r / B - 1, ?_, Or.inr ?_, ?_⟩
    · rw [Nat.mul_one]; exact Nat.mul_lt_mul_of_pos_right (by omega) (Nat.two_pow_pos _)
    · rw [Nat.mul_one]; exact Nat.mul_le_mul_right _ (by omega)
    · rw [Nat.one_mul, rhe_mul _ _ (Nat.two_pow_pos _)]
      generalize r / B = k at *
      obtain ⟨k, rfl⟩ : ∃ k', k = k' + 1 := ⟨k - 1, by omega⟩
      rw [Nat.add_sub_cancel]
      rw [Nat.mul_comm, Nat.add_mul, Nat.one_mul] at hd
      omega

theorem units_mono {B r s : Nat} (hB : 0 < B) (h : r ≤ s) : units B r ≤ units B s := by
  rcases Nat.lt_or_ge (units B s) (units B r) with h1 | h1
  · have := Rnd.mono (by omega) (by omega) (rnd_units B s hB) (rnd_units B r hB) (by omega)
    have : r = s := by omega
    subst this; omega
  · exact h1

theorem rung_le_of_units_le {B r s : Nat} (hB : 0 < B) (h : units B r ≤ units B s) : r ≤ s :=
  Rnd.mono (by omega) (by omega) (rnd_units B r hB) (rnd_units B s hB) (by omega)

theorem units_zero (B : Nat) (hB : 0 < B) : units B 0 = 0 := by simp [units, hB]

theorem rnd_zero (B Q : Nat) (hB : 0 < B) (hQ : 0 < Q) : Rnd B 0 Q 0 :=
  Rnd.congr (P1 := 0) (Q1 := 1) (by omega) hQ (by have := rnd_units B 0 hB; rwa [units_zero B hB] at this) (by omega)

/-! ### 'cut' and 'nearest' -/

theorem cut_even (neg : Bool) (n d : Nat) : Toward.even.cut neg n d = rhe n (2 ^ d) := by
  unfold Toward.cut
  dsimp only
  rw [Nat.one_shiftLeft]
  have key : ∀ g, (n / g + (decide (g < 2 * (n % g)) || (g == 2 * (n % g) && n / g % 2 == 1)).toNat) = rhe n g := by
    intro g
    unfold rhe
    congr 1
    by_cases h1 : g < 2 * (n % g)
    · simp [h1]
    · by_cases h2 : g = 2 * (n % g)
      · by_cases h3 : n / g % 2 = 1
        · rw [if_pos (Or.inr ⟨h2, h3⟩)]
          rw [show (g == 2 * (n % g)) = true from beq_iff_eq.2 h2, show (n / g % 2 == 1) = true from beq_iff_eq.2 h3]
          simp
        · rw [if_neg (by omega)]
          rw [show (n / g % 2 == 1) = false from beq_eq_false_iff_ne.2 h3]
          simp [h1]
      · rw [if_neg (by omega)]
        rw [show (g == 2 * (n % g)) = false from beq_eq_false_iff_ne.2 h2]
        simp [h1]
  rw [key]
  rcases Nat.le_total d (n.log2 + 2) with h | h
  · rw [Nat.min_eq_left h]
  · rw [Nat.min_eq_right h]
    have h1 : n < 2 ^ (n.log2 + 1) := Nat.lt_log2_self
    have z : ∀ k, n.log2 + 2 ≤ k → rhe n (2 ^ k) = 0 := by
      intro k hk
      have h2 : 2 ^ (n.log2 + 2) ≤ 2 ^ k := Nat.pow_le_pow_right (by omega) hk
      have h3 : 2 ^ (n.log2 + 2) = 2 ^ (n.log2 + 1) * 2 := Nat.pow_succ ..
      have := (rhe_le_iff n (2 ^ k) 0 (Nat.two_pow_pos _)).2 (Or.inl (by omega))
      omega
    rw [z _ (Nat.le_refl _), z _ h]

theorem nearest_rnd (f : Format) (neg : Bool) (mag : Nat) (place : Int) (h : mag ≠ 0) :
    ∃ r, f.nearest neg mag place = f.word neg (min r f.infRung) ∧
      Rnd f.binade (mag * 2 ^ (place - f.leastPlace).toNat) (2 ^ (f.leastPlace - place).toNat) r := by
  unfold Format.nearest
  rw [if_neg h]
  dsimp only
  refine ⟨_, rfl, ?_⟩
  rw [cut_even, Nat.shiftLeft_eq]
  generalize f.leastPlace = least
  have hlo : 2 ^ mag.log2 ≤ mag := Nat.log2_self_le h
  have hhi : mag < 2 ^ (mag.log2 + 1) := Nat.lt_log2_self
  generalize hlast : max (place + (mag.log2 : Int) - (f.fractionBits : Int)) least = last
  unfold Format.binade
  generalize f.fractionBits = F at *
  refine ⟨(last - least).toNat, ?_, ?_, ?_⟩
  · have e1 : mag * 2 ^ (place - least).toNat < 2 ^ (mag.log2 + 1) * 2 ^ (place - least).toNat := Nat.mul_lt_mul_of_pos_right hhi (Nat.two_pow_pos _)
    rw [← Nat.pow_add] at e1
    have e2 : 2 * 2 ^ F * 2 ^ (last - least).toNat * 2 ^ (least - place).toNat = 2 ^ (F + 1 + (last - least).toNat + (least - place).toNat) := by
      rw [Nat.pow_add, Nat.pow_add, Nat.pow_succ, Nat.mul_comm 2]
    rw [e2]
    refine Nat.lt_of_lt_of_le e1 (Nat.pow_le_pow_right (by omega) ?_)
    omega
  · by_cases hz : (last - least).toNat = 0
    · exact Or.inl hz
    · right
      have e1 : 2 ^ mag.log2 * 2 ^ (place - least).toNat ≤ mag * 2 ^ (place - least).toNat := Nat.mul_le_mul_right _ hlo
      refine Nat.le_trans (Nat.le_of_eq ?_) e1
      rw [← Nat.pow_add, ← Nat.pow_add, ← Nat.pow_add]
      congr 1
      omega
  · congr 1
    refine rhe_congr (Nat.two_pow_pos _) (Nat.mul_pos (Nat.two_pow_pos _) (Nat.two_pow_pos _)) ?_
    rw [Nat.mul_assoc, Nat.mul_assoc, ← Nat.pow_add, ← Nat.pow_add, ← Nat.pow_add]
    congr 2
    omega

end Go.Proofs.Qxb6604250a.Fl
