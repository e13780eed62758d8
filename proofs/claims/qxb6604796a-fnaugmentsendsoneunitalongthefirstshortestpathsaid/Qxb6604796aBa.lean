/-
  PLAIN: the model of 'augment': distances by rounds, the first shortest path, pushes in the other order. No Go.
-/
import Derived.Test.Qxb6604796aAn
namespace Go.Proofs.Qxb6604796a.Af
set_option linter.unusedVariables false

/-! ### Only one first shortest path -/

section
variable {n : Nat} {L : Nat → Nat} {arc : Nat → Nat → Nat} {hed : Nat → Nat} {cap : Nat → Int} {sink : Nat}

theorem G.unique {k v a b : Nat} (h : G L arc hed cap sink k v a) (h' : G L arc hed cap sink k v b) : a = b := by
  obtain ⟨i, g1, g2, g3, g4, g5⟩ := h
  obtain ⟨j, f1, f2, f3, f4, f5⟩ := h'
  rcases Nat.lt_trichotomy i j with c | c | c
  · exact absurd ⟨by rw [g2]; exact g3, by rw [g2]; exact g4⟩ (f5 i c)
  · rw [← g2, ← f2, c]
  · exact absurd ⟨by rw [f2]; exact f3, by rw [f2]; exact f4⟩ (g5 j c)

theorem GP.unique : ∀ {d v : Nat} {p p' : List Nat}, GP L arc hed cap sink d v p → GP L arc hed cap sink d v p' → p = p'
  | 0, v, p, p', h, h' => by rw [h.2, h'.2]
  | d + 1, v, p, p', h, h' => by
    obtain ⟨_, a, q, rfl, h1, h2⟩ := h
    obtain ⟨_, b, q', rfl, h3, h4⟩ := h'
    obtain rfl := h1.unique h3
    rw [GP.unique h2 h4]

/-! ### Pushes in any order -/

theorem push1_comm (l : Nat → Int) (a c : Nat) : push1 (push1 l a) c = push1 (push1 l c) a := by
  funext b
  unfold push1
  by_cases h1 : b = x c <;> by_cases h2 : b = x a <;> by_cases h3 : b = a <;> by_cases h4 : b = c <;> simp only [h1, h2, h3, h4, if_true, if_false] <;> (try split) <;> (try split) <;> omega

theorem pushes_comm (bs : List Nat) : ∀ (l : Nat → Int) (a : Nat), bs.foldl push1 (push1 l a) = push1 (bs.foldl push1 l) a := by
  induction bs with
  | nil => intro l a; rfl
  | cons b bs ih => intro l a; rw [List.foldl_cons, List.foldl_cons, push1_comm, ih]

theorem pushes_reverse (bs : List Nat) : ∀ l : Nat → Int, bs.reverse.foldl push1 l = bs.foldl push1 l := by
  induction bs with
  | nil => intro l; rfl
  | cons a bs ih => intro l; rw [List.reverse_cons, List.foldl_append, ih, List.foldl_cons (l := bs), pushes_comm]; rfl

/-- Along the first shortest path, from its start. -/
theorem pushOk_fwd (h0 : ∀ b, 0 ≤ cap b) (h1 : ∀ b, cap b + cap (x b) ≤ 127) (tl : ∀ v, v < n → ∀ i, i < L v → hed (x (arc v i)) = v) (tolt : ∀ v, v < n → ∀ i, i < L v → hed (arc v i) < n) :
    ∀ (d v : Nat) (p : List Nat) (l : Nat → Int), v < n → GP L arc hed cap sink d v p →
    (∀ b, l b ≠ cap b → ∃ e', d ≤ e' ∧ ((Dist L arc hed cap sink (hed b) e' ∧ Dist L arc hed cap sink (hed (x b)) (e' + 1)) ∨ (Dist L arc hed cap sink (hed (x b)) e' ∧ Dist L arc hed cap sink (hed b) (e' + 1)))) → PushOk hed l p := by
  intro d
  induction d with
  | zero => intro v p l _ h _; rw [h.2]; trivial
  | succ d ih =>
    intro v p l hv h hl
    obtain ⟨hd, a, p', rfl, hg, hr⟩ := h
    obtain ⟨i, g1, g2, g3, g4, g5⟩ := hg
    have tx : hed (x a) = v := by rw [← g2]; exact tl v hv i g1
    have ht : hed a < n := by rw [← g2]; exact tolt v hv i g1
    have ea : l a = cap a := Classical.byContradiction fun hne => by
      obtain ⟨e', h2, h3 | h3⟩ := hl a hne
      · have := h3.1.unique g4; omega
      · have := h3.2.unique g4; omega
    have ex : l (x a) = cap (x a) := Classical.byContradiction fun hne => by
      obtain ⟨e', h2, h3 | h3⟩ := hl (x a) hne
      · rw [x_x] at h3; have := h3.2.unique g4; omega
      · rw [x_x] at h3; have := h3.1.unique g4; omega
    have := h0 a
    have := h0 (x a)
    have := h1 a
    refine ⟨by omega, by omega, by omega, by omega, ih (hed a) p' _ ht hr fun b hb => ?_⟩
    by_cases c1 : b = a
    · subst c1; exact ⟨d, Nat.le_refl _, .inl ⟨g4, by rw [tx]; exact hd⟩⟩
    · by_cases c2 : b = x a
      · subst c2; rw [x_x]; exact ⟨d, Nat.le_refl _, .inr ⟨g4, by rw [tx]; exact hd⟩⟩
      · rw [push1_other l c1 c2] at hb
        obtain ⟨e', h2, h3⟩ := hl b hb
        exact ⟨e', by omega, h3⟩

/-! ### Distances are small -/

theorem dist_chain (tolt : ∀ v, v < n → ∀ i, i < L v → hed (arc v i) < n) : ∀ (d v : Nat), v < n → Dist L arc hed cap sink v d → ∃ Q : Nat → Nat, ∀ j, j < d + 1 → Q j < n ∧ Dist L arc hed cap sink (Q j) j
  | 0, v, hv, h => ⟨fun _ => v, fun j hj => by
    have e : j = 0 := by omega
    rw [e]; exact ⟨hv, h⟩⟩
  | d + 1, v, hv, h => by
    obtain ⟨i, h1, h2, h3⟩ := h.down
    obtain ⟨Q, hQ⟩ := dist_chain tolt d _ (tolt v hv i h1) h3
    refine ⟨fun j => if j = d + 1 then v else Q j, fun j hj => ?_⟩
    by_cases e : j = d + 1
    · subst e; simp only [if_true]; exact ⟨hv, h⟩
    · simp only [e, if_false]; exact hQ j (by omega)

theorem dist_lt (tolt : ∀ v, v < n → ∀ i, i < L v → hed (arc v i) < n) {v d : Nat} (hv : v < n) (h : Dist L arc hed cap sink v d) : d < n := by
  obtain ⟨Q, hQ⟩ := dist_chain tolt d v hv h
  exact inj_le n (d + 1) Q (fun q hq => (hQ q hq).1) fun p q hp hq e => (hQ p hp).2.unique (e ▸ (hQ q hq).2)
end

/-! ### The rounds -/

/-- r rounds are through. -/
structure Br (n : Nat) (L : Nat → Nat) (arc : Nat → Nat → Nat) (hed : Nat → Nat) (cap : Nat → Int) (sink : Nat) (δ : Nat → Int) (r : Nat) : Prop where
  lo : ∀ v, v < n → -1 ≤ δ v ∧ δ v ≤ (r : Int) * 536870912
  sound : ∀ v, v < n → 0 ≤ δ v → St L arc hed cap sink (δ v).toNat v
  good : ∀ v, v < n → ∀ k, k ≤ r → St L arc hed cap sink k v → 0 ≤ δ v ∧ δ v ≤ (k : Int)

/-- In the next round: p points are through, and j arcs of the point p; 'c': has anything changed in it? -/
structure Bl (n : Nat) (L : Nat → Nat) (arc : Nat → Nat → Nat) (hed : Nat → Nat) (cap : Nat → Int) (sink : Nat) (δ : Nat → Int) (r : Nat) (c : Bool) (p j : Nat) : Prop where
  lo : ∀ v, v < n → -1 ≤ δ v ∧ δ v ≤ (r : Int) * 536870912 + (p : Int) * 131072 + (j : Int)
  sound : ∀ v, v < n → 0 ≤ δ v → St L arc hed cap sink (δ v).toNat v
  good : ∀ v, v < n → ∀ k, k ≤ r → St L arc hed cap sink k v → 0 ≤ δ v ∧ δ v ≤ (k : Int)
  done : ∀ v, v < n → v < p → ∀ k, k ≤ r + 1 → St L arc hed cap sink k v → 0 ≤ δ v ∧ δ v ≤ (k : Int)
  cur : ∀ i, i < j → cap (arc p i) ≠ 0 → ∀ k, k ≤ r → St L arc hed cap sink k (hed (arc p i)) → 0 ≤ δ p ∧ δ p ≤ (k : Int) + 1
  same : c = false → ∀ v, v < p → ∀ i, i < L v → cap (arc v i) ≠ 0 → 0 ≤ δ (hed (arc v i)) → 0 ≤ δ v ∧ δ v ≤ δ (hed (arc v i)) + 1
  samej : c = false → ∀ i, i < j → cap (arc p i) ≠ 0 → 0 ≤ δ (hed (arc p i)) → 0 ≤ δ p ∧ δ p ≤ δ (hed (arc p i)) + 1

/-- The distances. -/
structure Df (n : Nat) (L : Nat → Nat) (arc : Nat → Nat → Nat) (hed : Nat → Nat) (cap : Nat → Int) (sink : Nat) (δ : Nat → Int) : Prop where
  lo : ∀ v, v < n → -1 ≤ δ v
  sound : ∀ v, v < n → 0 ≤ δ v → St L arc hed cap sink (δ v).toNat v
  all : ∀ v, v < n → ∀ k, St L arc hed cap sink k v → 0 ≤ δ v ∧ δ v ≤ (k : Int)

section
variable {n : Nat} {L : Nat → Nat} {arc : Nat → Nat → Nat} {hed : Nat → Nat} {cap : Nat → Int} {sink : Nat} {δ : Nat → Int} {r p j : Nat} {c : Bool}

theorem Br.start : Br n L arc hed cap sink (fun v => if v = sink then 0 else -1) 0 := by
  refine ⟨fun v _ => ?_, fun v _ h => ?_, fun v _ k hk h => ?_⟩
  · show -1 ≤ (if v = sink then (0 : Int) else -1) ∧ (if v = sink then (0 : Int) else -1) ≤ _
    split <;> omega
  · by_cases e : v = sink
    · simp only [e, if_true]; exact (rfl : sink = sink)
    · simp only [e, if_false] at h; omega
  · obtain rfl : k = 0 := by omega
    have e : v = sink := h
    simp [e]

theorem Bl.start (h : Br n L arc hed cap sink δ r) : Bl n L arc hed cap sink δ r false 0 0 :=
  ⟨fun v hv => by have := h.lo v hv; omega, h.sound, h.good, fun v _ h => absurd h (Nat.not_lt_zero _), fun i h => absurd h (Nat.not_lt_zero _), fun _ v h => absurd h (Nat.not_lt_zero _), fun _ i h => absurd h (Nat.not_lt_zero _)⟩

theorem Bl.next (hn : n ≤ 4096) (h : Bl n L arc hed cap sink δ r c n 0) : Br n L arc hed cap sink δ (r + 1) :=
  ⟨fun v hv => by have := h.lo v hv; omega, h.sound, fun v hv k hk hs => h.done v hv hv k hk hs⟩

theorem Bl.skip (h : Bl n L arc hed cap sink δ r c p j) (hq : hed (arc p j) < n) (hj : cap (arc p j) ≠ 0 → 0 ≤ δ (hed (arc p j)) → 0 ≤ δ p ∧ δ p ≤ δ (hed (arc p j)) + 1) : Bl n L arc hed cap sink δ r c p (j + 1) := by
  refine ⟨fun v hv => by have := h.lo v hv; omega, h.sound, h.good, h.done, fun i hi hc k hk hs => ?_, h.same, fun hc i hi ha h0 => ?_⟩
  · by_cases e : i = j
    · subst e
      have g := h.good _ hq k hk hs
      have := hj hc g.1
      omega
    · exact h.cur i (by omega) hc k hk hs
  · by_cases e : i = j
    · subst e; exact hj ha h0
    · exact h.samej hc i (by omega) ha h0

theorem Bl.upd (h : Bl n L arc hed cap sink δ r c p j) (hp : p < n) (hjl : j < L p) (hq : hed (arc p j) < n) (hc : cap (arc p j) ≠ 0) (h0 : 0 ≤ δ (hed (arc p j))) (hb : δ p < 0 ∨ δ (hed (arc p j)) + 1 < δ p) :
    Bl n L arc hed cap sink (fun v => if v = p then δ (hed (arc p j)) + 1 else δ v) r true p (j + 1) := by
  refine ⟨fun v hv => ?_, fun v hv hs => ?_, fun v hv k hk hs => ?_, fun v hv hvp k hk hs => ?_, fun i hi hci k hk hs => ?_, fun h => (by cases h), fun h => (by cases h)⟩
  · have h1 := h.lo v hv
    have h2 := h.lo _ hq
    by_cases e : v = p
    · simp only [e, if_true]; omega
    · simp only [e, if_false]; omega
  · by_cases e : v = p
    · simp only [e, if_true] at hs ⊢
      have := h.sound _ hq h0
      rw [show (δ (hed (arc p j)) + 1).toNat = (δ (hed (arc p j))).toNat + 1 by omega]
      exact ⟨j, hjl, hc, this⟩
    · simp only [e, if_false] at hs ⊢; exact h.sound v hv hs
  · by_cases e : v = p
    · subst e
      have := h.good v hv k hk hs
      simp only [if_true]; omega
    · simp only [e, if_false]; exact h.good v hv k hk hs
  · have e : v ≠ p := by omega
    simp only [e, if_false]; exact h.done v hv hvp k hk hs
  · simp only [if_true]
    by_cases e : i = j
    · subst e
      have := h.good _ hq k hk hs
      omega
    · have := h.cur i (by omega) hci k hk hs
      omega

theorem Bl.row (h : Bl n L arc hed cap sink δ r c p (L p)) (hp : p < n) (hL : L p ≤ 131072) : Bl n L arc hed cap sink δ r c (p + 1) 0 := by
  refine ⟨fun v hv => by have := h.lo v hv; omega, h.sound, h.good, fun v hv hvp k hk hs => ?_, fun i h => absurd h (Nat.not_lt_zero _), fun hc v hv i hi ha h0 => ?_, fun _ i h => absurd h (Nat.not_lt_zero _)⟩
  · by_cases e : v = p
    · subst e
      cases k with
      | zero => exact h.good v hv 0 (Nat.zero_le _) hs
      | succ k =>
        obtain ⟨i, h1, h2, h3⟩ := hs
        have := h.cur i h1 h2 k (by omega) h3
        omega
    · exact h.done v hv (by omega) k hk hs
  · by_cases e : v = p
    · subst e; exact h.samej hc i hi ha h0
    · exact h.same hc v (by omega) i hi ha h0

theorem Bl.fin (h : Bl n L arc hed cap sink δ r false n 0) (tolt : ∀ v, v < n → ∀ i, i < L v → hed (arc v i) < n) : Df n L arc hed cap sink δ := by
  refine ⟨fun v hv => (h.lo v hv).1, h.sound, fun v hv k => ?_⟩
  induction k generalizing v with
  | zero => intro hs; exact h.good v hv 0 (Nat.zero_le _) hs
  | succ k ih =>
    rintro ⟨i, h1, h2, h3⟩
    have g := ih _ (tolt v hv i h1) h3
    have := h.same rfl v hv i h1 h2 g.1
    omega

theorem Br.fin (h : Br n L arc hed cap sink δ n) (tolt : ∀ v, v < n → ∀ i, i < L v → hed (arc v i) < n) : Df n L arc hed cap sink δ := by
  refine ⟨fun v hv => (h.lo v hv).1, h.sound, fun v hv k hs => ?_⟩
  obtain ⟨d, h1, h2⟩ := hs.dist
  have := dist_lt tolt hv h2
  have := h.good v hv d (by omega) h2.1
  omega

theorem Df.dist (h : Df n L arc hed cap sink δ) {v : Nat} (hv : v < n) (h0 : 0 ≤ δ v) : Dist L arc hed cap sink v (δ v).toNat :=
  ⟨h.sound v hv h0, fun k hk hs => by have := h.all v hv k hs; omega⟩

theorem Df.iff (h : Df n L arc hed cap sink δ) {v : Nat} (hv : v < n) (k : Nat) : Dist L arc hed cap sink v k ↔ δ v = (k : Int) := by
  refine ⟨fun g => ?_, fun g => ?_⟩
  · have h1 := h.all v hv k g.1
    have := (h.dist hv h1.1).unique g
    omega
  · have := h.dist hv (by omega)
    rwa [show (δ v).toNat = k by omega] at this

theorem Df.none (h : Df n L arc hed cap sink δ) {v : Nat} (hv : v < n) (h0 : δ v < 0) (k : Nat) : ¬ St L arc hed cap sink k v := fun g => by
  have := h.all v hv k g
  omega
end

end Go.Proofs.Qxb6604796a.Af
