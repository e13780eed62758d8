/-
  PLAIN: digits, their value from the left and from the right, where a run of digits ends. Nothing of the program in here.
-/
namespace Go.Proofs.Qxb6604269a.Pl

/-- The value of the 'k' digits from 's' on, read from the left. -/
def hv (Z : Nat → Int) (s : Nat) : Nat → Int
  | 0 => 0
  | k + 1 => hv Z s k * 10 + (Z (s + k) - 48)

def isDig (c : Int) : Prop := 48 ≤ c ∧ c ≤ 57

def Digs (Z : Nat → Int) (s k : Nat) : Prop := ∀ j, j < k → isDig (Z (s + j))

theorem Digs.succ {Z : Nat → Int} {s k : Nat} (h : Digs Z s k) (hk : isDig (Z (s + k))) : Digs Z s (k + 1) := by
  intro j hj
  by_cases e : j = k
  · subst e; exact hk
  · exact h j (by omega)

theorem hv_bound {Z : Nat → Int} {s : Nat} : ∀ (k : Nat), Digs Z s k → 0 ≤ hv Z s k ∧ hv Z s k < 10 ^ k
  | 0, _ => by simp [hv]
  | k + 1, h => by
    obtain ⟨h0, h1⟩ := hv_bound k (fun j hj => h j (by omega))
    have hd := h k (by omega)
    unfold isDig at hd
    have e : (10 : Int) ^ (k + 1) = 10 ^ k * 10 := by rw [Int.pow_succ]
    rw [hv, e]
    omega

theorem pow_le9 {k : Nat} (h : k ≤ 9) : (10 : Int) ^ k ≤ 1000000000 := by
  have : k = 0 ∨ k = 1 ∨ k = 2 ∨ k = 3 ∨ k = 4 ∨ k = 5 ∨ k = 6 ∨ k = 7 ∨ k = 8 ∨ k = 9 := by omega
  rcases this with rfl | rfl | rfl | rfl | rfl | rfl | rfl | rfl | rfl | rfl <;> decide

theorem pow_pos' (k : Nat) : (0 : Int) < 10 ^ k := Int.pow_pos (by omega)

theorem hv_le {Z : Nat → Int} {s k : Nat} (h : Digs Z s k) (hk : k ≤ 9) : 0 ≤ hv Z s k ∧ hv Z s k ≤ 1000000000 := by
  have h1 := hv_bound k h
  have h2 := pow_le9 hk
  omega

/-- From the right: one digit more in front. -/
theorem hv_front (Z : Nat → Int) (s : Nat) : ∀ (k : Nat), hv Z s (k + 1) = (Z s - 48) * 10 ^ k + hv Z (s + 1) k
  | 0 => by simp [hv]
  | k + 1 => by
    rw [hv, hv_front Z s k, hv, Int.pow_succ, show s + (k + 1) = s + 1 + k by omega, Int.add_mul, Int.mul_assoc]
    omega

/-- The form that is looked for, with 'k' digits. -/
def Form (Z : Nat → Int) (len s k : Nat) : Prop := Digs Z s k ∧ s + k + 1 < len ∧ Z (s + k) = 13 ∧ Z (s + k + 1) = 10

theorem form_unique {Z : Nat → Int} {len s k l : Nat} (h : Form Z len s k) (g : Form Z len s l) : k = l := by
  rcases Nat.lt_trichotomy k l with c | c | c
  · have := g.1 k c; have e := h.2.2.1; unfold isDig at this; omega
  · exact c
  · have := h.1 l c; have e := g.2.2.1; unfold isDig at this; omega

/-- Where the greedy run stops. -/
def Stop (Z : Nat → Int) (len s k : Nat) : Prop := Digs Z s k ∧ k ≤ 9 ∧ (k = 9 ∨ len ≤ s + k ∨ ¬ isDig (Z (s + k)))

theorem stop_form {Z : Nat → Int} {len s k l : Nat} (h : Stop Z len s k) (g : Form Z len s l) (hl : l ≤ 9) : k = l := by
  obtain ⟨h1, h2, h3⟩ := h
  rcases Nat.lt_trichotomy k l with c | c | c
  · have hd := g.1 k c
    have := g.2.1
    rcases h3 with h3 | h3 | h3
    · omega
    · omega
    · exact absurd hd h3
  · exact c
  · have := h1 l c; have e := g.2.2.1; unfold isDig at this; omega

end Go.Proofs.Qxb6604269a.Pl
