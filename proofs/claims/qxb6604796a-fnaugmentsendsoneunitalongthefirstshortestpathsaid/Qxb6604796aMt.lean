/-
  PLAIN: two searches that go back along links, each from its own half: what they reach, and that they meet just where a node is reached by both. Nothing of the program in here.
-/
namespace Go.Proofs.Qxb6604796a.Mt

/-- 'u' is among the nodes listed at 'v'. -/
def In (L : Nat → Nat) (Z : Nat → Nat → Int) (v u : Nat) : Prop := ∃ i, i < L v ∧ Z v i = (u : Int)

/-- Reached in at most k steps from 'half', entering no blocked node. -/
def ReachN (L : Nat → Nat) (Z : Nat → Nat → Int) (half blocked : Nat → Prop) : Nat → Nat → Prop
  | 0, u => half u
  | k + 1, u => ReachN L Z half blocked k u ∨ ∃ v, ReachN L Z half blocked k v ∧ In L Z v u ∧ ¬ blocked u

def Reach (L : Nat → Nat) (Z : Nat → Nat → Int) (half blocked : Nat → Prop) (u : Nat) : Prop := ∃ k, ReachN L Z half blocked k u

section
variable {L : Nat → Nat} {Z : Nat → Nat → Int} {half blocked : Nat → Prop}

theorem Reach.start {u : Nat} (h : half u) : Reach L Z half blocked u := ⟨0, h⟩

theorem Reach.step {v u : Nat} (h : Reach L Z half blocked v) (hi : In L Z v u) (hb : ¬ blocked u) : Reach L Z half blocked u := by
  obtain ⟨k, hk⟩ := h
  exact ⟨k + 1, .inr ⟨v, hk, hi, hb⟩⟩

/-- Whatever holds the half and is closed under steps holds all that is reached. -/
theorem Reach.least {S : Nat → Prop} (h0 : ∀ u, half u → S u) (h1 : ∀ v u, S v → In L Z v u → ¬ blocked u → S u) {u : Nat} (h : Reach L Z half blocked u) : S u := by
  obtain ⟨k, hk⟩ := h
  induction k generalizing u with
  | zero => exact h0 u hk
  | succ k ih =>
    rcases hk with hk | ⟨v, hv, hi, hb⟩
    · exact ih hk
    · exact h1 v u (ih hv) hi hb

/-- More blocked nodes: less is reached. -/
theorem Reach.fewer {blocked' : Nat → Prop} (hb : ∀ u, blocked u → blocked' u) {u : Nat} (h : Reach L Z half blocked' u) : Reach L Z half blocked u :=
  Reach.least (fun _ h => Reach.start h) (fun _ _ hv hi hn => Reach.step hv hi fun h => hn (hb _ h)) h
end

/-- How many of the first n are 0. -/
def zeros (t : Nat → Int) : Nat → Nat
  | 0 => 0
  | n + 1 => zeros t n + (if t n = 0 then 1 else 0)

theorem zeros_le (t : Nat → Int) : ∀ n, zeros t n ≤ n
  | 0 => Nat.le_refl _
  | n + 1 => by have := zeros_le t n; rw [zeros]; split <;> omega

theorem zeros_other {t : Nat → Int} {u : Nat} {c : Int} : ∀ n, n ≤ u → zeros (fun i => if i = u then c else t i) n = zeros t n
  | 0, _ => rfl
  | n + 1, h => by rw [zeros, zeros, zeros_other n (by omega), if_neg (show ¬ n = u by omega)]

theorem zeros_set {t : Nat → Int} {u : Nat} {c : Int} (hc : c ≠ 0) (h0 : t u = 0) : ∀ n, u < n → zeros (fun i => if i = u then c else t i) n + 1 = zeros t n
  | 0, h => absurd h (Nat.not_lt_zero _)
  | n + 1, h => by
    rw [zeros, zeros]
    by_cases e : n = u
    · subst e
      rw [zeros_other n (Nat.le_refl _), if_pos rfl, if_neg hc, if_pos h0]
    · have := zeros_set hc h0 n (by omega)
      rw [if_neg e]
      omega

/-- The two searches' state: 't s u': how side s has marked node u; 'q s': its queue; 'h s': how many of it are done. -/
structure Inv (n : Nat) (L : Nat → Nat) (Z : Nat → Nat → Int) (half blk : Nat → Nat → Prop) (l : Nat → Nat) (t : Nat → Nat → Int) (q : Nat → List Nat) (h : Nat → Nat) : Prop where
  val : ∀ s, s < 2 → ∀ u, u < n → t s u = 0 ∨ t s u = 2 ∨ t s u = 3
  bar : ∀ s, s < 2 → ∀ u, u < n → (t s u = 3 ↔ blk s u)
  rch : ∀ s, s < 2 → ∀ u, u < n → t s u = 2 → Reach L Z (half s) (blk s) u
  hlf : ∀ s, s < 2 → ∀ u, half s u → u < n ∧ t s u = 2
  que : ∀ s, s < 2 → ∀ u, u ∈ q s → u < n ∧ t s u = 2
  all : ∀ s, s < 2 → ∀ u, u < n → t s u = 2 → u ∈ q s
  fin : ∀ s, s < 2 → ∀ i v, i < h s → (q s)[i]? = some v → ∀ u, In L Z v u → t s u ≠ 0
  hle : ∀ s, s < 2 → h s ≤ (q s).length
  sep : ∀ u, u < n → t 0 u = 2 → t 1 u = 2 → False
  len : ∀ s, s < 2 → (q s).length + zeros (t s) n ≤ l s + n

/-- One side's function, one place changed. -/
def upd {α : Type} (f : Nat → α) (s : Nat) (x : α) : Nat → α := fun i => if i = s then x else f i

theorem upd_same {α : Type} (f : Nat → α) (s : Nat) (x : α) : upd f s x s = x := if_pos rfl
theorem upd_other {α : Type} (f : Nat → α) {s i : Nat} (x : α) (h : i ≠ s) : upd f s x i = f i := if_neg h

section
variable {n : Nat} {L : Nat → Nat} {Z : Nat → Nat → Int} {half blk : Nat → Nat → Prop} {l : Nat → Nat} {t : Nat → Nat → Int} {q : Nat → List Nat} {h : Nat → Nat}

/-- A node is reached. -/
theorem Inv.mark (I : Inv n L Z half blk l t q h) {s v u : Nat} (hs : s < 2) (hu : u < n) (hv : Reach L Z (half s) (blk s) v) (hin : In L Z v u) (h0 : t s u = 0) (hx : t (1 - s) u ≠ 2) :
    Inv n L Z half blk l (upd t s (fun i => if i = u then 2 else t s i)) (upd q s (q s ++ [u])) h := by
  have key : ∀ s', s' < 2 → ∀ w, w < n → upd t s (fun i => if i = u then 2 else t s i) s' w = (if s' = s ∧ w = u then 2 else t s' w) := by
    intro s' _ w _
    by_cases e : s' = s
    · subst e
      rw [upd_same]
      by_cases e2 : w = u <;> simp [e2]
    · rw [upd_other _ _ e, if_neg (fun h => e h.1)]
  refine ⟨?_, ?_, ?_, ?_, ?_, ?_, ?_, ?_, ?_, ?_⟩
  · intro s' hs' w hw
    rw [key s' hs' w hw]
    split
    · exact .inr (.inl rfl)
    · exact I.val s' hs' w hw
  · intro s' hs' w hw
    rw [key s' hs' w hw]
    split
    · rename_i e
      obtain ⟨rfl, rfl⟩ := e
      constructor
      · intro hh; omega
      · intro hh; have := (I.bar _ hs' _ hw).2 hh; omega
    · exact I.bar s' hs' w hw
  · intro s' hs' w hw
    rw [key s' hs' w hw]
    split
    · rename_i e
      obtain ⟨rfl, rfl⟩ := e
      intro _
      exact hv.step hin fun hb => by have := (I.bar _ hs' _ hw).2 hb; omega
    · exact I.rch s' hs' w hw
  · intro s' hs' w hw
    obtain ⟨g1, g2⟩ := I.hlf s' hs' w hw
    refine ⟨g1, ?_⟩
    rw [key s' hs' w g1]
    split
    · rfl
    · exact g2
  · intro s' hs' w hw
    by_cases e : s' = s
    · subst e
      rw [upd_same] at hw
      rcases List.mem_append.1 hw with hw | hw
      · obtain ⟨g1, g2⟩ := I.que _ hs' w hw
        refine ⟨g1, ?_⟩
        rw [key _ hs' w g1]
        split
        · rfl
        · exact g2
      · have e2 : w = u := by simpa using hw
        subst e2
        refine ⟨hu, ?_⟩
        rw [key _ hs' w hu, if_pos ⟨rfl, rfl⟩]
    · rw [upd_other _ _ e] at hw
      obtain ⟨g1, g2⟩ := I.que _ hs' w hw
      refine ⟨g1, ?_⟩
      rw [key _ hs' w g1, if_neg (fun h => e h.1)]
      exact g2
  · intro s' hs' w hw ht
    rw [key _ hs' w hw] at ht
    by_cases e : s' = s
    · subst e
      rw [upd_same]
      by_cases e2 : w = u
      · subst e2; simp
      · rw [if_neg (fun h => e2 h.2)] at ht
        exact List.mem_append_left _ (I.all _ hs' w hw ht)
    · rw [if_neg (fun h => e h.1)] at ht
      rw [upd_other _ _ e]
      exact I.all _ hs' w hw ht
  · intro s' hs' i v' hi hq w hw hz
    by_cases e : s' = s
    · subst e
      rw [upd_same] at hq hz
      have hlen := I.hle _ hs'
      rw [List.getElem?_append_left (by omega)] at hq
      have := I.fin _ hs' i v' hi hq w hw
      by_cases e2 : w = u
      · subst e2; exact this h0
      · rw [if_neg e2] at hz; exact this hz
    · rw [upd_other _ _ e] at hq hz
      exact I.fin _ hs' i v' hi hq w hw hz
  · intro s' hs'
    by_cases e : s' = s
    · subst e
      rw [upd_same, List.length_append]
      have := I.hle _ hs'
      omega
    · rw [upd_other _ _ e]; exact I.hle _ hs'
  · intro w hw g0 g1
    rw [key 0 (by omega) w hw] at g0
    rw [key 1 (by omega) w hw] at g1
    have : s = 0 ∨ s = 1 := by omega
    rcases this with rfl | rfl
    · rw [if_neg (by omega)] at g1
      by_cases e2 : w = u
      · subst e2; exact hx g1
      · rw [if_neg (fun h => e2 h.2)] at g0
        exact I.sep w hw g0 g1
    · rw [if_neg (by omega)] at g0
      by_cases e2 : w = u
      · subst e2; exact hx g0
      · rw [if_neg (fun h => e2 h.2)] at g1
        exact I.sep w hw g0 g1
  · intro s' hs'
    by_cases e : s' = s
    · subst e
      rw [upd_same, upd_same, List.length_append]
      have := I.len _ hs'
      have := zeros_set (t := t s') (u := u) (c := 2) (by omega) h0 n hu
      simp only [List.length_cons, List.length_nil]
      omega
    · rw [upd_other _ _ e, upd_other _ _ e]; exact I.len _ hs'

/-- The head of a queue has been gone through. -/
theorem Inv.done (I : Inv n L Z half blk l t q h) {s v : Nat} (hs : s < 2) (hv : (q s)[h s]? = some v) (hf : ∀ u, In L Z v u → t s u ≠ 0) : Inv n L Z half blk l t q (upd h s (h s + 1)) := by
  refine ⟨I.val, I.bar, I.rch, I.hlf, I.que, I.all, ?_, ?_, I.sep, I.len⟩
  · intro s' hs' i v' hi hq u hu
    by_cases e : s' = s
    · subst e
      rw [upd_same] at hi
      by_cases e2 : i = h s'
      · subst e2
        rw [hv] at hq
        cases hq
        exact hf u hu
      · exact I.fin _ hs' i v' (by omega) hq u hu
    · rw [upd_other _ _ e] at hi
      exact I.fin _ hs' i v' hi hq u hu
  · intro s' hs'
    by_cases e : s' = s
    · subst e
      rw [upd_same]
      have := (List.getElem?_eq_some_iff.1 hv).1
      omega
    · rw [upd_other _ _ e]; exact I.hle _ hs'

/-- A node that one search comes to and the other has reached. -/
theorem Inv.found (I : Inv n L Z half blk l t q h) {s v u : Nat} (hs : s < 2) (hu : u < n) (hv : Reach L Z (half s) (blk s) v) (hin : In L Z v u) (h0 : t s u = 0) (hx : t (1 - s) u = 2) :
    ∃ u, Reach L Z (half 0) (blk 0) u ∧ Reach L Z (half 1) (blk 1) u := by
  have g1 : Reach L Z (half s) (blk s) u := hv.step hin fun hb => by have := (I.bar _ hs _ hu).2 hb; omega
  have g2 : Reach L Z (half (1 - s)) (blk (1 - s)) u := I.rch _ (by omega) u hu hx
  have : s = 0 ∨ s = 1 := by omega
  rcases this with rfl | rfl
  · exact ⟨u, g1, g2⟩
  · exact ⟨u, g2, g1⟩

/-- Both queues are done, and no node was found. -/
theorem Inv.none (I : Inv n L Z half blk l t q h) (hin : ∀ v u, v < n → In L Z v u → u < n) (hd : ∀ s, s < 2 → h s = (q s).length) :
    ¬ ∃ u, Reach L Z (half 0) (blk 0) u ∧ Reach L Z (half 1) (blk 1) u := by
  have key : ∀ s, s < 2 → ∀ u, Reach L Z (half s) (blk s) u → u < n ∧ t s u = 2 := by
    intro s hs u hu
    refine Reach.least (S := fun u => u < n ∧ t s u = 2) (I.hlf s hs) ?_ hu
    intro v u ⟨hv, hv2⟩ hi hb
    have hun := hin v u hv hi
    refine ⟨hun, ?_⟩
    have hm := I.all s hs v hv hv2
    obtain ⟨i, hlt, hi'⟩ := List.getElem_of_mem hm
    have := I.fin s hs i v (by rw [hd s hs]; exact hlt) (by rw [List.getElem?_eq_getElem hlt, hi']) u hi
    have h3 : t s u ≠ 3 := fun h => hb ((I.bar s hs u hun).1 h)
    rcases I.val s hs u hun with h | h | h
    · exact absurd h this
    · exact h
    · exact absurd h h3
  rintro ⟨u, h0, h1⟩
  obtain ⟨hu, g0⟩ := key 0 (by omega) u h0
  exact I.sep u hu g0 (key 1 (by omega) u h1).2
end

end Go.Proofs.Qxb6604796a.Mt
