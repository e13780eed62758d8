/-
  PLAIN: what '+', '-', '*', '/' and the order do on finite words, as whole numbers of units of the least place. Nothing of the program in here.
-/
import Derived.Test.Qxb6604250aFl
namespace Go.Proofs.Qxb6604250a.Fl
open Ieee

/-- What a sign, a magnitude and a place stand for, in units of the least place. -/
def dv (f : Format) (s : Bool) (m : Nat) (e : Int) : Int :=
  if s then -((m * 2 ^ (e - f.leastPlace).toNat : Nat) : Int) else ((m * 2 ^ (e - f.leastPlace).toNat : Nat) : Int)

theorem dv_natAbs (f : Format) (s : Bool) (m : Nat) (e : Int) : (dv f s m e).natAbs = m * 2 ^ (e - f.leastPlace).toNat := by
  unfold dv; cases s
  · simp only [Bool.false_eq_true, if_false, Int.natAbs_natCast]
  · simp only [if_true, Int.natAbs_neg, Int.natAbs_natCast]

/-- The finite word 'x' stands for 'z' units of the least place. -/
def Val (f : Format) (x : Nat) (z : Int) : Prop :=
  ∃ s m e r, f.read x = .number s m e ∧ f.leastPlace ≤ e ∧ m * 2 ^ (e - f.leastPlace).toNat = units f.binade r ∧ r < f.infRung ∧ z = dv f s m e

theorem binade_pos (f : Format) : 0 < f.binade := Nat.two_pow_pos _

theorem inf_lt (f : Format) : f.infRung < f.signWeight := by
  have h : 0 < 2 ^ f.exponentBits := Nat.two_pow_pos _
  have hb := binade_pos f
  have : f.infRung + f.binade = f.signWeight := by
    unfold Format.infRung Format.signWeight
    rw [Nat.pow_add, ← Nat.succ_mul]
    exact congrArg (· * f.binade) (by omega)
  omega

theorem read_of_rung (f : Format) (x r : Nat) (hx : x % f.signWeight = r) (hr : r < f.infRung) :
    ∃ m e, f.read x = .number (x / f.signWeight % 2 == 1) m e ∧ f.leastPlace ≤ e ∧ m * 2 ^ (e - f.leastPlace).toNat = units f.binade r := by
  unfold Format.read
  dsimp only
  rw [hx]
  by_cases h : r < f.binade
  · rw [if_pos h]
    exact ⟨_, _, rfl, Int.le_refl _, by simp [units, h]⟩
  · rw [if_neg h, if_pos hr]
    refine ⟨_, _, rfl, by omega, ?_⟩
    unfold units
    rw [if_neg h]
    congr 2
    omega

/-- Any word that reads as a number stands for a number of units. -/
theorem val_of_number (f : Format) (hf : f.binade ≤ f.infRung) (x : Nat) {s m e} (h : f.read x = .number s m e) : ∃ z, Val f x z := by
  have hr : x % f.signWeight < f.infRung := by
    unfold Format.read at h
    dsimp only at h
    by_cases h1 : x % f.signWeight < f.infRung
    · exact h1
    · exfalso
      rw [if_neg (by omega), if_neg h1] at h
      split at h <;> cases h
  obtain ⟨m', e', hm, he, hu⟩ := read_of_rung f x _ rfl hr
  exact ⟨_, _, m', e', _, hm, he, hu, hr, rfl⟩

theorem val_word (f : Format) (s : Bool) (r : Nat) (hr : r < f.infRung) :
    Val f (f.word s r) (if s then -((units f.binade r : Nat) : Int) else ((units f.binade r : Nat) : Int)) := by
  have hs := inf_lt f
  have h1 : f.word s r % f.signWeight = r := by
    unfold Format.word
    cases s
    · simp [Nat.mod_eq_of_lt (show r < f.signWeight by omega)]
    · simp [Nat.mod_eq_of_lt (show r < f.signWeight by omega)]
  have h2 : (f.word s r / f.signWeight % 2 == 1) = s := by
    unfold Format.word
    cases s
    · simp [Nat.div_eq_of_lt (show r < f.signWeight by omega)]
    · simp [Nat.add_div_left r (show 0 < f.signWeight by omega), Nat.div_eq_of_lt (show r < f.signWeight by omega)]
  obtain ⟨m, e, hm, he, hu⟩ := read_of_rung f _ _ h1 hr
  rw [h2] at hm
  refine ⟨s, m, e, r, hm, he, hu, hr, ?_⟩
  unfold dv
  rw [hu]

/-- 'z' is 'n / q' units, rounded. -/
def RZ (f : Format) (n : Int) (q : Nat) (z : Int) : Prop :=
  ∃ r, z.natAbs = units f.binade r ∧ Rnd f.binade n.natAbs q r ∧ (0 ≤ n → 0 ≤ z) ∧ (n ≤ 0 → z ≤ 0)

theorem natAbs_mul_le {a b : Int} {q1 q2 : Nat} (ha : 0 ≤ a) (h : a * q2 ≤ b * q1) (hb : 0 ≤ b) : a.natAbs * q2 ≤ b.natAbs * q1 := by
  have e1 : (a.natAbs : Int) = a := Int.natAbs_of_nonneg ha
  have e2 : (b.natAbs : Int) = b := Int.natAbs_of_nonneg hb
  have : ((a.natAbs * q2 : Nat) : Int) ≤ ((b.natAbs * q1 : Nat) : Int) := by
    rw [Int.natCast_mul, Int.natCast_mul, e1, e2]; exact h
  exact Int.ofNat_le.1 this

theorem RZ.mono {f : Format} {n1 n2 z1 z2 : Int} {q1 q2 : Nat} (hq1 : 0 < q1) (hq2 : 0 < q2) (h1 : RZ f n1 q1 z1) (h2 : RZ f n2 q2 z2)
    (h : n1 * q2 ≤ n2 * q1) : z1 ≤ z2 := by
  obtain ⟨r1, a1, b1, c1, d1⟩ := h1
  obtain ⟨r2, a2, b2, c2, d2⟩ := h2
  have hb := binade_pos f
  have p1 : (0 : Int) < q1 := by omega
  have p2 : (0 : Int) < q2 := by omega
  by_cases k1 : 0 ≤ n1
  · have k2 : 0 ≤ n2 := by
      rcases Int.lt_or_le n2 0 with k | k
      · have := Int.mul_neg_of_neg_of_pos k p1
        have := Int.mul_nonneg k1 (Int.le_of_lt p2)
        omega
      · exact k
    have := units_mono hb (Rnd.mono hq1 hq2 b1 b2 (natAbs_mul_le k1 h k2))
    have := c1 k1; have := c2 k2
    omega
  · by_cases k2 : 0 ≤ n2
    · have := d1 (by omega); have := c2 k2; omega
    · have h' : (-n2) * q1 ≤ (-n1) * q2 := by rw [Int.neg_mul, Int.neg_mul]; omega
      have h'' := natAbs_mul_le (a := -n2) (b := -n1) (by omega) h' (by omega)
      rw [Int.natAbs_neg, Int.natAbs_neg] at h''
      have := units_mono hb (Rnd.mono hq2 hq1 b2 b1 h'')
      have := d1 (by omega); have := d2 (by omega)
      omega

theorem Val.exact {f : Format} {x : Nat} {z : Int} (h : Val f x z) : RZ f z 1 z := by
  obtain ⟨s, m, e, r, _, _, hu, _, rfl⟩ := h
  refine ⟨r, ?_, ?_, fun h => h, fun h => h⟩
  · rw [dv_natAbs, hu]
  · rw [dv_natAbs, hu]; exact rnd_units _ _ (binade_pos f)

/-- A number within the format is written as a finite word. -/
theorem write_number (f : Format) (s : Bool) (m : Nat) (e : Int) (M : Nat) (hM : M < f.infRung)
    (h : m * 2 ^ (e - f.leastPlace).toNat ≤ units f.binade M * 2 ^ (f.leastPlace - e).toNat) :
    ∃ r, r ≤ M ∧ f.write (.number s m e) = f.word s r ∧ Rnd f.binade (m * 2 ^ (e - f.leastPlace).toNat) (2 ^ (f.leastPlace - e).toNat) r := by
  have hb := binade_pos f
  by_cases hm : m = 0
  · subst hm
    refine ⟨0, Nat.zero_le _, ?_, ?_⟩
    · simp [Format.write, Format.nearest]
    · rw [Nat.zero_mul]; exact rnd_zero _ _ hb (Nat.two_pow_pos _)
  · obtain ⟨r, h1, h2⟩ := nearest_rnd f s m e hm
    have hr : r ≤ M := Rnd.mono (Nat.two_pow_pos _) (by omega) h2 (rnd_units f.binade M hb) (by omega)
    refine ⟨r, hr, ?_, h2⟩
    show f.nearest s m e = _
    rw [h1, Nat.min_eq_left (by omega)]

theorem signed_eq (s : Bool) (m u : Nat) : signed s m u = if s then -((m * 2 ^ u : Nat) : Int) else ((m * 2 ^ u : Nat) : Int) := by
  unfold signed; rw [Nat.shiftLeft_eq]

theorem dv_signed (f : Format) (s : Bool) (m : Nat) (e base : Int) (h1 : f.leastPlace ≤ base) (h2 : base ≤ e) :
    dv f s m e = signed s m (e - base).toNat * ((2 ^ (base - f.leastPlace).toNat : Nat) : Int) := by
  rw [signed_eq]
  unfold dv
  have : 2 ^ (e - f.leastPlace).toNat = 2 ^ (e - base).toNat * 2 ^ (base - f.leastPlace).toNat := by
    rw [← Nat.pow_add]; congr 1; omega
  rw [this, ← Nat.mul_assoc]
  cases s
  · simp only [Bool.false_eq_true, if_false]; rw [Int.natCast_mul]
  · simp only [if_true]; rw [Int.neg_mul, Int.natCast_mul]


/-- The word of a sign and a rung, as a rounded number. -/
theorem word_rz (f : Format) (s : Bool) (r : Nat) (hr : r < f.infRung) (n : Int) (q : Nat) (hn : Rnd f.binade n.natAbs q r) (hq : 0 < q)
    (hs : n ≠ 0 → (s = true ↔ n < 0)) : ∃ z, Val f (f.word s r) z ∧ RZ f n q z := by
  refine ⟨_, val_word f s r hr, r, ?_, hn, ?_, ?_⟩
  · cases s
    · simp only [Bool.false_eq_true, if_false, Int.natAbs_natCast]
    · simp only [if_true, Int.natAbs_neg, Int.natAbs_natCast]
  all_goals
    intro h0
    by_cases hz : n = 0
    · subst hz
      have : r ≤ 0 := Rnd.mono hq hq hn (rnd_zero _ _ (binade_pos f) hq) (by simp)
      have : r = 0 := by omega
      subst this
      rw [units_zero _ (binade_pos f)]
      cases s <;> simp
    · have h1 := hs hz
      cases s
      · simp at h1 ⊢; try omega
      · simp at h1 ⊢; try omega

/-- A sum of two numbers of the format, within the format. -/
theorem sum_core (f : Format) (s t : Bool) (m n : Nat) (i j : Int) (hi : f.leastPlace ≤ i) (hj : f.leastPlace ≤ j) (M : Nat) (hM : M < f.infRung)
    (h : (dv f s m i + dv f t n j).natAbs ≤ units f.binade M) :
    ∃ d z, (Datum.number s m i).sum (.number t n j) = some d ∧ Val f (f.write d) z ∧ RZ f (dv f s m i + dv f t n j) 1 z := by
  have hb1 : f.leastPlace ≤ min i j := by omega
  have e1 := dv_signed f s m i (min i j) hb1 (by omega)
  have e2 := dv_signed f t n j (min i j) hb1 (by omega)
  have e3 : dv f s m i + dv f t n j = (signed s m (i - min i j).toNat + signed t n (j - min i j).toNat) * ((2 ^ (min i j - f.leastPlace).toNat : Nat) : Int) := by
    rw [e1, e2, Int.add_mul]
  have hp : 0 < 2 ^ (min i j - f.leastPlace).toNat := Nat.two_pow_pos _
  unfold Datum.sum
  dsimp only
  generalize signed s m (i - min i j).toNat + signed t n (j - min i j).toNat = T at *
  rw [e3] at h ⊢
  have e4 : (T * ((2 ^ (min i j - f.leastPlace).toNat : Nat) : Int)).natAbs = T.natAbs * 2 ^ (min i j - f.leastPlace).toNat := by
    rw [Int.natAbs_mul, Int.natAbs_natCast]
  have e5 : 2 ^ (f.leastPlace - min i j).toNat = 1 := by rw [show (f.leastPlace - min i j).toNat = 0 by omega, Nat.pow_zero]
  rw [e4] at h
  have hle : T.natAbs * 2 ^ (min i j - f.leastPlace).toNat ≤ units f.binade M * 2 ^ (f.leastPlace - min i j).toNat := by
    rw [e5, Nat.mul_one]; exact h
  obtain ⟨r, hr, hw, hR⟩ := write_number f (if T = 0 then s && t else decide (T < 0)) T.natAbs (min i j) M hM hle
  rw [e5, ← e4] at hR
  refine ⟨.number (if T = 0 then s && t else decide (T < 0)) T.natAbs (min i j), ?_⟩
  obtain ⟨z, hz1, hz2⟩ := word_rz f (if T = 0 then s && t else decide (T < 0)) r (by omega) _ 1 hR (by omega) (by
    intro hne
    have hT : T ≠ 0 := by intro h0; rw [h0] at hne; simp at hne
    rw [if_neg hT]
    have hp' : (0 : Int) < ((2 ^ (min i j - f.leastPlace).toNat : Nat) : Int) := by omega
    constructor
    · intro h1
      exact Int.mul_neg_of_neg_of_pos (by simpa using h1) hp'
    · intro h1
      rcases Int.lt_or_le T 0 with k | k
      · simpa using k
      · have := Int.mul_nonneg k (Int.le_of_lt hp'); omega)
  refine ⟨z, rfl, ?_, hz2⟩
  rw [hw]; exact hz1

theorem dv_not (f : Format) (s : Bool) (m : Nat) (e : Int) : dv f (!s) m e = -dv f s m e := by
  unfold dv; cases s <;> simp

theorem add_val {f : Format} {x y : Nat} {zx zy : Int} (hx : Val f x zx) (hy : Val f y zy) (M : Nat) (hM : M < f.infRung) (h : (zx + zy).natAbs ≤ units f.binade M) :
    ∃ w z, f.add x y = some w ∧ Val f w z ∧ RZ f (zx + zy) 1 z := by
  obtain ⟨s, m, i, r, h1, h2, _, _, rfl⟩ := hx
  obtain ⟨t, n, j, u, g1, g2, _, _, rfl⟩ := hy
  obtain ⟨d, z, a, b, c⟩ := sum_core f s t m n i j h2 g2 M hM h
  exact ⟨_, z, by unfold Format.add; rw [h1, g1, a]; rfl, b, c⟩

theorem sub_val {f : Format} {x y : Nat} {zx zy : Int} (hx : Val f x zx) (hy : Val f y zy) (M : Nat) (hM : M < f.infRung) (h : (zx - zy).natAbs ≤ units f.binade M) :
    ∃ w z, f.sub x y = some w ∧ Val f w z ∧ RZ f (zx - zy) 1 z := by
  obtain ⟨s, m, i, r, h1, h2, _, _, rfl⟩ := hx
  obtain ⟨t, n, j, u, g1, g2, _, _, rfl⟩ := hy
  have e : dv f s m i - dv f t n j = dv f s m i + dv f (!t) n j := by rw [dv_not]; omega
  rw [e] at h ⊢
  obtain ⟨d, z, a, b, c⟩ := sum_core f s (!t) m n i j h2 g2 M hM h
  exact ⟨_, z, by unfold Format.sub; rw [h1, g1]; show (Datum.sum _ (.number (!t) n j)).map f.write = _; rw [a]; rfl, b, c⟩

/-- What one is, in units of the least place. -/
def one (f : Format) : Nat := 2 ^ (-f.leastPlace).toNat

theorem dv_mul_natAbs (f : Format) (s t : Bool) (m n : Nat) (i j : Int) :
    (dv f s m i * dv f t n j).natAbs = m * n * 2 ^ ((i - f.leastPlace).toNat + (j - f.leastPlace).toNat) := by
  rw [Int.natAbs_mul, dv_natAbs, dv_natAbs, Nat.pow_add]
  generalize 2 ^ (i - f.leastPlace).toNat = a
  generalize 2 ^ (j - f.leastPlace).toNat = b
  rw [Nat.mul_assoc, Nat.mul_assoc, ← Nat.mul_assoc a, ← Nat.mul_assoc n, Nat.mul_comm a n]

theorem dv_pos {f : Format} {s : Bool} {m : Nat} {e : Int} (h : dv f s m e ≠ 0) : s = true ↔ dv f s m e < 0 := by
  unfold dv at h ⊢
  generalize m * 2 ^ (e - f.leastPlace).toNat = k at *
  cases s
  · simp only [Bool.false_eq_true, if_false] at h ⊢
    exact ⟨fun h0 => h0.elim, fun h0 => by omega⟩
  · simp only [if_true] at h ⊢
    exact ⟨fun _ => by omega, fun _ => trivial⟩

theorem xor_sign {a b : Int} {s t : Bool} (ha : a ≠ 0 → (s = true ↔ a < 0)) (hb : b ≠ 0 → (t = true ↔ b < 0)) (h : a * b ≠ 0) : (s ^^ t) = true ↔ a * b < 0 := by
  have h1 : a ≠ 0 := by intro e; rw [e] at h; simp at h
  have h2 : b ≠ 0 := by intro e; rw [e] at h; simp at h
  have ha' := ha h1
  have hb' := hb h2
  rcases Int.lt_or_gt_of_ne h1 with k1 | k1 <;> rcases Int.lt_or_gt_of_ne h2 with k2 | k2
  · have := Int.mul_pos_of_neg_of_neg k1 k2
    rw [ha'.2 k1, hb'.2 k2]; simp; omega
  · have := Int.mul_neg_of_neg_of_pos k1 k2
    have : t = false := by cases t <;> simp_all; omega
    rw [ha'.2 k1, this]; simp; omega
  · have := Int.mul_neg_of_pos_of_neg k1 k2
    have : s = false := by cases s <;> simp_all; omega
    rw [hb'.2 k2, this]; simp; omega
  · have := Int.mul_pos k1 k2
    have e1 : s = false := by cases s <;> simp_all; omega
    have e2 : t = false := by cases t <;> simp_all; omega
    rw [e1, e2]; simp; omega

theorem mul_val {f : Format} (hf : f.leastPlace ≤ 0) {x y : Nat} {zx zy : Int} (hx : Val f x zx) (hy : Val f y zy) (M : Nat) (hM : M < f.infRung)
    (h : (zx * zy).natAbs ≤ units f.binade M * one f) :
    ∃ w z, f.mul x y = some w ∧ Val f w z ∧ RZ f (zx * zy) (one f) z := by
  obtain ⟨s, m, i, r, h1, h2, _, _, rfl⟩ := hx
  obtain ⟨t, n, j, u, g1, g2, _, _, rfl⟩ := hy
  have e0 : m * n * 2 ^ (i + j - f.leastPlace).toNat * one f = (dv f s m i * dv f t n j).natAbs * 2 ^ (f.leastPlace - (i + j)).toNat := by
    rw [dv_mul_natAbs]
    unfold one
    rw [Nat.mul_assoc, Nat.mul_assoc (m * n), ← Nat.pow_add, ← Nat.pow_add]
    congr 2
    omega
  obtain ⟨r', hr', hw, hR⟩ := write_number f (s ^^ t) (m * n) (i + j) M hM (by
    have k1 : (dv f s m i * dv f t n j).natAbs * 2 ^ (f.leastPlace - (i + j)).toNat ≤ units f.binade M * one f * 2 ^ (f.leastPlace - (i + j)).toNat := Nat.mul_le_mul_right _ h
    rw [← e0, Nat.mul_assoc (units f.binade M), Nat.mul_comm (one f), ← Nat.mul_assoc] at k1
    exact Nat.le_of_mul_le_mul_right k1 (Nat.two_pow_pos _))
  have hR' := Rnd.congr (Nat.two_pow_pos _) (show 0 < one f from Nat.two_pow_pos _) hR e0
  obtain ⟨z, hz1, hz2⟩ := word_rz f (s ^^ t) r' (by omega) _ _ hR' (Nat.two_pow_pos _) (xor_sign dv_pos dv_pos)
  refine ⟨f.write (.number (s ^^ t) (m * n) (i + j)), z, ?_, ?_, hz2⟩
  · unfold Format.mul; rw [h1, g1]; rfl
  · rw [hw]; exact hz1

/-- 'quotient' keeps enough digits: to round what it gives is to round the true quotient. -/
theorem sticky (F D n a b r : Nat) (hn : 0 < n) (hD : 2 ^ (F + 1) * n ≤ D)
    (h : Rnd (2 ^ F) ((2 * (D / n) + (D % n != 0).toNat) * 2 ^ a) (2 ^ b) r) : Rnd (2 ^ F) (2 * D * 2 ^ a) (n * 2 ^ b) r := by
  have hq : 2 ^ (F + 1) ≤ D / n := (Nat.le_div_iff_mul_le hn).2 hD
  have hdm : n * (D / n) + D % n = D := Nat.div_add_mod D n
  have hlt : D % n < n := Nat.mod_lt _ hn
  obtain ⟨l, h1, h2, h3⟩ := h
  have hst : (D % n != 0).toNat = if D % n = 0 then 0 else 1 := by
    by_cases k : D % n = 0
    · simp [k]
    · simp [k]
  rw [hst] at h1 h2 h3
  generalize hQ : D / n = q at *
  generalize D % n = t at *
  -- the shift
  have e1 : 2 * 2 ^ F * 2 ^ l * 2 ^ b = 2 ^ (F + 1 + l + b) := by rw [Nat.pow_add, Nat.pow_add, Nat.pow_succ, Nat.mul_comm 2]
  have e2 : 2 ^ F * 2 ^ l * 2 ^ b = 2 ^ (F + l + b) := by rw [Nat.pow_add, Nat.pow_add]
  rw [e1] at h1
  rw [e2] at h2
  have hs : a + 2 ≤ l + b := by
    rcases Nat.lt_or_ge (l + b) (a + 2) with k | k
    · exfalso
      have k1 : 2 ^ (F + 2) * 2 ^ a ≤ (2 * q + if t = 0 then 0 else 1) * 2 ^ a := by
        refine Nat.mul_le_mul_right _ ?_
        rw [Nat.pow_succ]; omega
      rw [← Nat.pow_add] at k1
      have k2 : 2 ^ (F + 1 + l + b) ≤ 2 ^ (F + 2 + a) := Nat.pow_le_pow_right (by omega) (by omega)
      omega
    · exact k
  obtain ⟨c, hc⟩ : ∃ c, l + b = a + (c + 2) := ⟨l + b - a - 2, by omega⟩
  have pa : 0 < 2 ^ a := Nat.two_pow_pos _
  have pc : 0 < 2 ^ c := Nat.two_pow_pos _
  have e3 : 2 ^ (F + 1 + l + b) = 4 * (2 * 2 ^ F * 2 ^ c) * 2 ^ a := by
    rw [show F + 1 + l + b = F + 1 + (c + 2) + a by omega, Nat.pow_add, Nat.pow_add, Nat.pow_succ, Nat.pow_add 2 c 2]
    congr 1
    generalize 2 ^ F = x; generalize 2 ^ c = y
    rw [Nat.mul_comm x 2, ← Nat.mul_assoc, Nat.mul_comm _ (2 ^ 2)]
  have e4 : 2 ^ (F + l + b) = 2 * (2 * 2 ^ F * 2 ^ c) * 2 ^ a := by
    have : 2 * 2 ^ (F + l + b) = 2 * (2 * (2 * 2 ^ F * 2 ^ c) * 2 ^ a) := by
      rw [← Nat.mul_assoc, ← Nat.mul_assoc, show 2 * 2 * (2 * 2 ^ F * 2 ^ c) = 4 * (2 * 2 ^ F * 2 ^ c) by omega, ← e3, show F + 1 + l + b = (F + l + b) + 1 by omega, Nat.pow_succ]; omega
    omega
  have e5 : 2 ^ b * 2 ^ l = 4 * 2 ^ c * 2 ^ a := by
    rw [← Nat.pow_add, show b + l = a + (c + 2) by omega, Nat.pow_add, Nat.pow_add, Nat.mul_comm, Nat.mul_comm _ (2 ^ 2)]
  rw [e3] at h1
  rw [e4] at h2
  have h1' := Nat.lt_of_mul_lt_mul_right h1
  refine ⟨l, ?_, ?_, ?_⟩
  · -- below the binade's end
    have k1 : q + 1 ≤ 2 * (2 * 2 ^ F * 2 ^ c) := by omega
    have k2 : D < n * (q + 1) := by rw [Nat.mul_add]; omega
    have k3 : n * (q + 1) ≤ n * (2 * (2 * 2 ^ F * 2 ^ c)) := Nat.mul_le_mul_left _ k1
    have k4 : 2 * D * 2 ^ a < 2 * (n * (2 * (2 * 2 ^ F * 2 ^ c))) * 2 ^ a := Nat.mul_lt_mul_of_pos_right (by omega) pa
    refine Nat.lt_of_lt_of_eq k4 ?_
    have : 2 * 2 ^ F * 2 ^ l * (n * 2 ^ b) = n * (2 * 2 ^ F * 2 ^ l * 2 ^ b) := by
      rw [← Nat.mul_assoc, Nat.mul_comm _ n, Nat.mul_assoc]
    rw [this, e1, e3]
    generalize 2 * 2 ^ F * 2 ^ c = G
    rw [show n * (4 * G * 2 ^ a) = 4 * (n * G) * 2 ^ a by ac_rfl, show n * (2 * G) = 2 * (n * G) by ac_rfl, ← Nat.mul_assoc 2 2]
  · rcases h2 with h2 | h2
    · exact Or.inl h2
    · right
      have h2' := Nat.le_of_mul_le_mul_right h2 pa
      have k1 : 2 * 2 ^ F * 2 ^ c ≤ q := by
        by_cases ht : t = 0
        · rw [if_pos ht] at h2'; omega
        · rw [if_neg ht] at h2'; omega
      have k3 : n * (2 * 2 ^ F * 2 ^ c) ≤ n * q := Nat.mul_le_mul_left _ k1
      have k4 : 2 * (n * (2 * 2 ^ F * 2 ^ c)) * 2 ^ a ≤ 2 * D * 2 ^ a := Nat.mul_le_mul_right _ (by omega)
      refine Nat.le_trans (Nat.le_of_eq ?_) k4
      have : 2 ^ F * 2 ^ l * (n * 2 ^ b) = n * (2 ^ F * 2 ^ l * 2 ^ b) := by
        rw [← Nat.mul_assoc, Nat.mul_comm _ n, Nat.mul_assoc]
      rw [this, e2, e4]
      generalize 2 * 2 ^ F * 2 ^ c = G
      ac_rfl
  · rw [h3]
    congr 1
    have q1 : 0 < 2 ^ b * 2 ^ l := Nat.mul_pos (Nat.two_pow_pos _) (Nat.two_pow_pos _)
    have q2 : 0 < n * 2 ^ b * 2 ^ l := Nat.mul_pos (Nat.mul_pos hn (Nat.two_pow_pos _)) (Nat.two_pow_pos _)
    have iff : ∀ k, rhe ((2 * q + if t = 0 then 0 else 1) * 2 ^ a) (2 ^ b * 2 ^ l) ≤ k ↔ rhe (2 * D * 2 ^ a) (n * 2 ^ b * 2 ^ l) ≤ k := by
      intro k
      rw [rhe_le_iff _ _ _ q1, rhe_le_iff _ _ _ q2, Nat.mul_assoc n, e5]
      have w1 : (2 * k + 1) * (4 * 2 ^ c * 2 ^ a) = 4 * ((2 * k + 1) * 2 ^ c) * 2 ^ a := by
        rw [← Nat.mul_assoc, Nat.mul_left_comm]
      have w2 : (2 * k + 1) * (n * (4 * 2 ^ c * 2 ^ a)) = 4 * (n * ((2 * k + 1) * 2 ^ c)) * 2 ^ a := by
        rw [Nat.mul_left_comm, w1, ← Nat.mul_assoc n, Nat.mul_left_comm n 4]
      rw [w1, w2, ← Nat.mul_assoc 2, ← Nat.mul_assoc 2 (2 * D)]
      generalize (2 * k + 1) * 2 ^ c = T
      have c1 : ∀ A B : Nat, A * 2 ^ a < B * 2 ^ a ↔ A < B := fun A B => Nat.mul_lt_mul_right pa
      have c2 : ∀ A B : Nat, A * 2 ^ a = B * 2 ^ a ↔ A = B := fun A B => Nat.mul_right_cancel_iff pa
      rw [c1, c2, c1, c2]
      have l1 : (2 * (2 * q + if t = 0 then 0 else 1) < 4 * T) ↔ q < T := by split <;> omega
      have l2 : (2 * (2 * q + if t = 0 then 0 else 1) = 4 * T) ↔ q = T ∧ t = 0 := by split <;> omega
      have l3 : (2 * (2 * D) < 4 * (n * T)) ↔ q < T := by
        constructor
        · intro g
          have : n * q < n * T := by omega
          exact Nat.lt_of_mul_lt_mul_left this
        · intro g
          have : n * (q + 1) ≤ n * T := Nat.mul_le_mul_left _ g
          rw [Nat.mul_add] at this
          omega
      have l4 : (2 * (2 * D) = 4 * (n * T)) ↔ q = T ∧ t = 0 := by
        constructor
        · intro g
          have g1 : D = n * T := by omega
          have g2 : q = T := by rw [← hQ, g1, Nat.mul_div_cancel_left _ hn]
          subst g2
          exact ⟨rfl, by omega⟩
        · rintro ⟨rfl, rfl⟩
          omega
      rw [l1, l2, l3, l4]
    exact Nat.le_antisymm ((iff _).2 (Nat.le_refl _)) ((iff _).1 (Nat.le_refl _))

theorem div_val {f : Format} (hf : f.leastPlace ≤ 0) {x y : Nat} {zx zy : Int} (hx : Val f x zx) (hy : Val f y zy) (hpos : 0 < zy) (M : Nat) (hM : M < f.infRung)
    (h : (zx * (one f : Int)).natAbs ≤ units f.binade M * zy.natAbs) :
    ∃ w z, f.div x y = some w ∧ Val f w z ∧ RZ f (zx * (one f : Int)) zy.natAbs z := by
  obtain ⟨s, m, i, r, h1, h2, _, _, rfl⟩ := hx
  obtain ⟨t, n, j, u, g1, g2, _, _, rfl⟩ := hy
  have hn : n ≠ 0 := by
    rintro rfl
    unfold dv at hpos; simp at hpos
  have ht : t = false := by
    cases t with
    | false => rfl
    | true => have := (dv_pos (f := f) (s := true) (m := n) (e := j) (by omega)).1 rfl; omega
  subst ht
  have hbp := binade_pos f
  have hQ : 0 < (dv f false n j).natAbs := by omega
  -- what the quotient gives
  generalize hmore : f.fractionBits + 2 + n.log2 - m.log2 = more
  have hrun : f.div x y = some (f.write (.number s (2 * (m * 2 ^ more / n) + (m * 2 ^ more % n != 0).toNat) (i - j - more - 1))) := by
    unfold Format.div
    rw [h1, g1]
    unfold Datum.quotient
    dsimp only
    rw [if_neg hn, hmore, Nat.shiftLeft_eq, Bool.xor_false]
    rfl
  have e0 : (dv f s m i * (one f : Int)).natAbs = m * 2 ^ ((i - f.leastPlace).toNat + (-f.leastPlace).toNat) := by
    rw [Int.natAbs_mul, dv_natAbs, Int.natAbs_natCast, Nat.pow_add, Nat.mul_assoc]; rfl
  have e1 : (dv f false n j).natAbs = n * 2 ^ (j - f.leastPlace).toNat := dv_natAbs ..
  by_cases hm : m = 0
  · subst hm
    have hR : Rnd f.binade (dv f s 0 i * (one f : Int)).natAbs (dv f false n j).natAbs 0 := by
      rw [e0, Nat.zero_mul]; exact rnd_zero _ _ hbp hQ
    obtain ⟨z, hz1, hz2⟩ := word_rz f s 0 (by omega) _ _ hR hQ (by
      intro hne; exfalso; apply hne
      have : (dv f s 0 i * (one f : Int)).natAbs = 0 := by rw [e0, Nat.zero_mul]
      omega)
    refine ⟨_, z, hrun, ?_, hz2⟩
    have : f.write (.number s (2 * (0 * 2 ^ more / n) + (0 * 2 ^ more % n != 0).toNat) (i - j - more - 1)) = f.word s 0 := by
      simp [Format.write, Format.nearest]
    rw [this]; exact hz1
  · have hlo : 2 ^ m.log2 ≤ m := Nat.log2_self_le hm
    have hhi : n < 2 ^ (n.log2 + 1) := Nat.lt_log2_self
    have hD : 2 ^ (f.fractionBits + 1) * n ≤ m * 2 ^ more := by
      have k1 : 2 ^ (f.fractionBits + 1) * n ≤ 2 ^ (f.fractionBits + 1) * 2 ^ (n.log2 + 1) := Nat.mul_le_mul_left _ (Nat.le_of_lt hhi)
      have k2 : 2 ^ m.log2 * 2 ^ more ≤ m * 2 ^ more := Nat.mul_le_mul_right _ hlo
      rw [← Nat.pow_add] at k1 k2
      have k3 : 2 ^ (f.fractionBits + 1 + (n.log2 + 1)) ≤ 2 ^ (m.log2 + more) := Nat.pow_le_pow_right (by omega) (by omega)
      omega
    have hmag : 2 * (m * 2 ^ more / n) + (m * 2 ^ more % n != 0).toNat ≠ 0 := by
      have : 2 ^ (f.fractionBits + 1) ≤ m * 2 ^ more / n := (Nat.le_div_iff_mul_le (by omega)).2 hD
      have := Nat.two_pow_pos (f.fractionBits + 1)
      omega
    obtain ⟨r', hw, hR⟩ := nearest_rnd f s _ (i - j - more - 1) hmag
    have hR2 := sticky f.fractionBits (m * 2 ^ more) n _ _ r' (by omega) hD hR
    have e2 : 2 * (m * 2 ^ more) * 2 ^ (i - j - more - 1 - f.leastPlace).toNat * (dv f false n j).natAbs =
        (dv f s m i * (one f : Int)).natAbs * (n * 2 ^ (f.leastPlace - (i - j - more - 1)).toNat) := by
      rw [e0, e1]
      have a1 : 2 * (m * 2 ^ more) * 2 ^ (i - j - more - 1 - f.leastPlace).toNat * (n * 2 ^ (j - f.leastPlace).toNat) =
          m * n * 2 ^ (1 + more + (i - j - more - 1 - f.leastPlace).toNat + (j - f.leastPlace).toNat) := by
        rw [Nat.pow_add, Nat.pow_add, Nat.pow_add, Nat.pow_one]
        ac_rfl
      have a2 : m * 2 ^ ((i - f.leastPlace).toNat + (-f.leastPlace).toNat) * (n * 2 ^ (f.leastPlace - (i - j - more - 1)).toNat) =
          m * n * 2 ^ ((i - f.leastPlace).toNat + (-f.leastPlace).toNat + (f.leastPlace - (i - j - more - 1)).toNat) := by
        rw [Nat.pow_add _ ((i - f.leastPlace).toNat + (-f.leastPlace).toNat)]
        ac_rfl
      rw [a1, a2]
      congr 2
      omega
    have hR3 := Rnd.congr (Nat.mul_pos (by omega) (Nat.two_pow_pos _)) hQ hR2 e2
    have hr' : r' ≤ M := Rnd.mono hQ (by omega) hR3 (rnd_units f.binade M hbp) (by rw [Nat.mul_one]; exact h)
    have hone : (0 : Int) < (one f : Int) := by have : 0 < one f := Nat.two_pow_pos _; omega
    obtain ⟨z, hz1, hz2⟩ := word_rz f s r' (by omega) _ _ hR3 hQ (by
      intro hne
      have h0 : dv f s m i ≠ 0 := by intro e; rw [e] at hne; simp at hne
      rw [dv_pos h0]
      constructor
      · intro k; exact Int.mul_neg_of_neg_of_pos k hone
      · intro k
        rcases Int.lt_or_le (dv f s m i) 0 with k' | k'
        · exact k'
        · have := Int.mul_nonneg k' (Int.le_of_lt hone); omega)
    refine ⟨_, z, hrun, ?_, hz2⟩
    show Val f (f.nearest s _ _) z
    rw [hw, Nat.min_eq_left (by omega)]
    exact hz1

theorem cmp_int (a b : Int) : compare a b = if a < b then .lt else if a = b then .eq else .gt := rfl

/-- The order of two finite words is that of what they stand for. -/
theorem order_val {f : Format} {x y : Nat} {zx zy : Int} (hx : Val f x zx) (hy : Val f y zy) : f.order x y = some (compare zx zy) := by
  obtain ⟨s, m, i, r, h1, h2, _, _, rfl⟩ := hx
  obtain ⟨t, n, j, u, g1, g2, _, _, rfl⟩ := hy
  unfold Format.order
  rw [h1, g1]
  unfold Datum.order
  dsimp only
  rw [dv_signed f s m i (min i j) (by omega) (by omega), dv_signed f t n j (min i j) (by omega) (by omega)]
  generalize signed s m _ = a
  generalize signed t n _ = b
  have hp : (0 : Int) < ((2 ^ (min i j - f.leastPlace).toNat : Nat) : Int) := by have := Nat.two_pow_pos (min i j - f.leastPlace).toNat; omega
  generalize ((2 ^ (min i j - f.leastPlace).toNat : Nat) : Int) = c at *
  congr 1
  rw [cmp_int, cmp_int]
  rcases Int.lt_trichotomy a b with h | h | h
  · have h' : a * c < b * c := Int.mul_lt_mul_of_pos_right h hp
    rw [if_pos h, if_pos h']
  · subst h
    rw [if_neg (Int.lt_irrefl a), if_neg (Int.lt_irrefl (a * c)), if_pos rfl, if_pos rfl]
  · have h' : b * c < a * c := Int.mul_lt_mul_of_pos_right h hp
    rw [if_neg (show ¬ a < b by omega), if_neg (show ¬ a * c < b * c by omega), if_neg (show ¬ a = b by omega), if_neg (show ¬ a * c = b * c by omega)]

end Go.Proofs.Qxb6604250a.Fl
