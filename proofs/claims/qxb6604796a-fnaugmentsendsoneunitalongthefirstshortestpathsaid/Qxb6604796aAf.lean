/-
  PLAIN: paths in a network, the breadth-first search of 'augment', pushes. No Go.
-/
import Derived.Test.Qxb6604796aMt
namespace Go.Proofs.Qxb6604796a.Af
set_option linter.unusedVariables false

/-- The other arc of a's pair. -/
def x (a : Nat) : Nat := if a % 2 = 0 then a + 1 else a - 1

theorem x_x (a : Nat) : x (x a) = a := by unfold x; split <;> split <;> omega
theorem x_ne (a : Nat) : x a ≠ a := by unfold x; split <;> omega
theorem x_lt {a m : Nat} (h : a < m) (hm : m % 2 = 0) : x a < m := by unfold x; split <;> omega
theorem x_inj {a b : Nat} (h : x a = x b) : a = b := by have := congrArg x h; rwa [x_x, x_x] at this

section
variable (L : Nat → Nat) (arc : Nat → Nat → Nat) (to : Nat → Nat) (cap : Nat → Int) (sink : Nat)

/-- k arcs with capacity left lead from v to the sink. -/
def St : Nat → Nat → Prop
  | 0, v => v = sink
  | k + 1, v => ∃ i, i < L v ∧ cap (arc v i) ≠ 0 ∧ St k (to (arc v i))

/-- .. and no fewer do. -/
def Dist (v k : Nat) : Prop := St L arc to cap sink k v ∧ ∀ k', k' < k → ¬ St L arc to cap sink k' v

/-- The first arc of v that brings the sink nearer, to k steps. -/
def G (k v a : Nat) : Prop := ∃ i, i < L v ∧ arc v i = a ∧ cap a ≠ 0 ∧ Dist L arc to cap sink (to a) k ∧ ∀ i', i' < i → ¬ (cap (arc v i') ≠ 0 ∧ Dist L arc to cap sink (to (arc v i')) k)

/-- The first shortest path from v. -/
def GP : Nat → Nat → List Nat → Prop
  | 0, v, p => v = sink ∧ p = []
  | d + 1, v, p => Dist L arc to cap sink v (d + 1) ∧ ∃ a p', p = a :: p' ∧ G L arc to cap sink d v a ∧ GP d (to a) p'
end

section
variable {L : Nat → Nat} {arc : Nat → Nat → Nat} {to : Nat → Nat} {cap : Nat → Int} {sink : Nat}

theorem Dist.unique {v k k' : Nat} (h : Dist L arc to cap sink v k) (h' : Dist L arc to cap sink v k') : k = k' := by
  rcases Nat.lt_trichotomy k k' with g | g | g
  · exact absurd h.1 (h'.2 k g)
  · exact g
  · exact absurd h'.1 (h.2 k' g)

theorem St.dist {v : Nat} : ∀ {k}, St L arc to cap sink k v → ∃ d, d ≤ k ∧ Dist L arc to cap sink v d := by
  intro k
  induction k using Nat.strongRecOn with
  | _ k ih =>
    intro h
    by_cases g : ∃ k', k' < k ∧ St L arc to cap sink k' v
    · obtain ⟨k', h1, h2⟩ := g
      obtain ⟨d, h3, h4⟩ := ih k' h1 h2
      exact ⟨d, by omega, h4⟩
    · exact ⟨k, Nat.le_refl _, h, fun k' h1 h2 => g ⟨k', h1, h2⟩⟩

/-- A point at distance k + 1 has an arc to one at distance k. -/
theorem Dist.down {v k : Nat} (h : Dist L arc to cap sink v (k + 1)) : ∃ i, i < L v ∧ cap (arc v i) ≠ 0 ∧ Dist L arc to cap sink (to (arc v i)) k := by
  obtain ⟨i, h1, h2, h3⟩ := h.1
  refine ⟨i, h1, h2, h3, fun k' hk hs => h.2 (k' + 1) (by omega) ⟨i, h1, h2, hs⟩⟩

theorem dist_zero {v : Nat} : Dist L arc to cap sink v 0 ↔ v = sink := ⟨fun h => h.1, fun h => ⟨h, fun k' h => absurd h (Nat.not_lt_zero _)⟩⟩

/-- A closed set without the sink leads nowhere. -/
theorem St.closed {V : Nat → Prop} (hs : ¬ V sink) (hc : ∀ v i, V v → i < L v → cap (arc v i) ≠ 0 → V (to (arc v i))) : ∀ {k v : Nat}, V v → ¬ St L arc to cap sink k v
  | 0, v, hv, h => hs (by have : v = sink := h; rw [← this]; exact hv)
  | k + 1, v, hv, ⟨i, h1, h2, h3⟩ => St.closed hs hc (hc v i hv h1 h2) h3

theorem GP.st : ∀ {d v : Nat} {p : List Nat}, GP L arc to cap sink d v p → Dist L arc to cap sink v d
  | 0, v, p, h => dist_zero.2 h.1
  | d + 1, v, p, h => h.1
end

/-- One search, from s: 'Q' the first m of it the queue; 'i' the point and 'j' the arc it is at; 'dep' the depths. -/
structure Bf (n : Nat) (L : Nat → Nat) (arc : Nat → Nat → Nat) (to : Nat → Nat) (cap : Nat → Int) (sink s : Nat) (V0 : Nat → Prop) (via : Nat → Int) (dep : Nat → Nat) (Q : Nat → Nat) (m i j : Nat) : Prop where
  pos : 0 < m
  lt : ∀ q, q < m → Q q < n
  first0 : Q 0 = s
  nod : ∀ p q, p < m → q < m → Q p = Q q → p = q
  vis : ∀ u, u < n → (via u ≠ -1 ↔ (V0 u ∨ ∃ q, q < m ∧ Q q = u))
  disj : ∀ q, q < m → ¬ V0 (Q q)
  snk : ∀ q, q < m → Q q ≠ sink
  vs : ¬ V0 sink
  clo0 : ∀ v i, V0 v → i < L v → cap (arc v i) ≠ 0 → V0 (to (arc v i))
  via0 : via s = -2
  dep0 : dep s = 0
  par : ∀ q, q < m → Q q ≠ s → ∃ p a l, p < m ∧ p ≤ i ∧ via (Q q) = ((a : Nat) : Int) ∧ to a = Q q ∧ to (x a) = Q p ∧ cap a ≠ 0 ∧ l < L (Q p) ∧ arc (Q p) l = a ∧ dep (Q q) = dep (Q p) + 1
  mono : ∀ p q, p ≤ q → q < m → dep (Q p) ≤ dep (Q q)
  up : i < m → ∀ q, q < m → dep (Q q) ≤ dep (Q i) + 1
  done : ∀ p, p < i → p < m → ∀ l, l < L (Q p) → cap (arc (Q p) l) ≠ 0 → V0 (to (arc (Q p) l)) ∨ ∃ q, q < m ∧ Q q = to (arc (Q p) l) ∧ dep (Q q) ≤ dep (Q p) + 1
  doing : i < m → ∀ l, l < j → l < L (Q i) → cap (arc (Q i) l) ≠ 0 → V0 (to (arc (Q i) l)) ∨ ∃ q, q < m ∧ Q q = to (arc (Q i) l) ∧ dep (Q q) ≤ dep (Q i) + 1
  first : ∀ d, Dist L arc to cap sink s d → ∀ q k, q < m → k + 1 ≤ d → dep (Q q) = k + 1 → Dist L arc to cap sink (Q q) (d - (k + 1)) →
    (∀ q', q' < q → dep (Q q') = k + 1 → ¬ Dist L arc to cap sink (Q q') (d - (k + 1))) →
    ∃ p a, p < m ∧ dep (Q p) = k ∧ Dist L arc to cap sink (Q p) (d - k) ∧ (∀ p', p' < p → dep (Q p') = k → ¬ Dist L arc to cap sink (Q p') (d - k)) ∧ via (Q q) = ((a : Nat) : Int) ∧ to a = Q q ∧ to (x a) = Q p ∧ G L arc to cap sink (d - (k + 1)) (Q p) a

namespace Bf
variable {n : Nat} {L : Nat → Nat} {arc : Nat → Nat → Nat} {to : Nat → Nat} {cap : Nat → Int} {sink s : Nat} {V0 : Nat → Prop} {via : Nat → Int} {dep : Nat → Nat} {Q : Nat → Nat} {m i j : Nat}

/-- A point of the queue is as many arcs from the start as its depth says. -/
theorem back (h : Bf n L arc to cap sink s V0 via dep Q m i j) : ∀ e q k, q < m → dep (Q q) = e → St L arc to cap sink k (Q q) → St L arc to cap sink (k + e) s := by
  intro e
  induction e with
  | zero =>
    intro q k hq he hs
    by_cases g : Q q = s
    · rw [g] at hs; exact hs
    · obtain ⟨p, a, l, _, _, _, _, _, _, _, _, h9⟩ := h.par q hq g
      omega
  | succ e ih =>
    intro q k hq he hs
    have g : Q q ≠ s := fun g => by rw [g, h.dep0] at he; omega
    obtain ⟨p, a, l, h1, _, _, h4, h5, h6, h7, h8, h9⟩ := h.par q hq g
    have := ih p (k + 1) h1 (by omega) ⟨l, h7, by rw [h8]; exact h6, by rw [h8, h4]; exact hs⟩
    rwa [show k + (e + 1) = k + 1 + e by omega]

theorem low (h : Bf n L arc to cap sink s V0 via dep Q m i j) {d q k : Nat} (hd : Dist L arc to cap sink s d) (hq : q < m) (hk : St L arc to cap sink k (Q q)) : d ≤ k + dep (Q q) := by
  refine Nat.le_of_not_lt fun g => hd.2 _ g (h.back _ q k hq rfl hk)

theorem noV0 (h : Bf n L arc to cap sink s V0 via dep Q m i j) {v k : Nat} (hv : V0 v) : ¬ St L arc to cap sink k v := St.closed h.vs h.clo0 hv

/-- An arc from a point on the way, all of whose heads up to it are seen, leads to a point on the way that is in the queue. -/
theorem step (h : Bf n L arc to cap sink s V0 via dep Q m i j) {d p k l : Nat} (hd : Dist L arc to cap sink s d) (hp : p < m) (hk : dep (Q p) = k) (hkd : k + 1 ≤ d) (hl : Dist L arc to cap sink (to (arc (Q p) l)) (d - (k + 1)))
    (hseen : V0 (to (arc (Q p) l)) ∨ ∃ q, q < m ∧ Q q = to (arc (Q p) l) ∧ dep (Q q) ≤ dep (Q p) + 1) :
    ∃ q, q < m ∧ dep (Q q) = k + 1 ∧ Dist L arc to cap sink (Q q) (d - (k + 1)) := by
  rcases hseen with g | ⟨q, h1, h2, h3⟩
  · exact absurd hl.1 (h.noV0 g)
  · rw [← h2] at hl
    have := h.low hd h1 hl.1
    exact ⟨q, h1, by omega, hl⟩

/-- A new point on the way, the first of its depth: it is found from the first of the depth before, by the first good arc. -/
theorem greedy (h : Bf n L arc to cap sink s V0 via dep Q m i j) {d k : Nat} (hi : i < m) (hj : j < L (Q i)) (hc : cap (arc (Q i) j) ≠ 0) (hd : Dist L arc to cap sink s d) (hk : dep (Q i) = k) (hkd : k + 1 ≤ d)
    (hl : Dist L arc to cap sink (to (arc (Q i) j)) (d - (k + 1))) (hno : ∀ q', q' < m → dep (Q q') = k + 1 → ¬ Dist L arc to cap sink (Q q') (d - (k + 1))) :
    Dist L arc to cap sink (Q i) (d - k) ∧ (∀ p', p' < i → dep (Q p') = k → ¬ Dist L arc to cap sink (Q p') (d - k)) ∧ G L arc to cap sink (d - (k + 1)) (Q i) (arc (Q i) j) := by
  have e1 : d - k = d - (k + 1) + 1 := by omega
  have hon : Dist L arc to cap sink (Q i) (d - k) := by
    refine ⟨by rw [e1]; exact ⟨j, hj, hc, hl.1⟩, fun k' hk' hs => ?_⟩
    have := h.low hd hi hs
    omega
  refine ⟨hon, fun p' hp' hk' hd' => ?_, j, hj, rfl, hc, hl, fun i' hi' ⟨hc', hd'⟩ => ?_⟩
  · rw [e1] at hd'
    obtain ⟨l, g1, g2, g3⟩ := hd'.down
    obtain ⟨q, q1, q2, q3⟩ := h.step hd (by omega) hk' hkd g3 (h.done p' hp' (by omega) l g1 g2)
    exact hno q q1 q2 q3
  · obtain ⟨q, q1, q2, q3⟩ := h.step hd hi hk hkd hd' (h.doing hi i' hi' (by omega) hc')
    exact hno q q1 q2 q3

/-- The search at its start. -/
theorem start (hs : s < n) (hsk : s ≠ sink) (h0 : ¬ V0 s) (hv : ∀ u, u < n → (via u ≠ -1 ↔ V0 u)) (vs : ¬ V0 sink) (clo0 : ∀ v i, V0 v → i < L v → cap (arc v i) ≠ 0 → V0 (to (arc v i))) :
    Bf n L arc to cap sink s V0 (fun u => if u = s then -2 else via u) (fun _ => 0) (fun _ => s) 1 0 0 := by
  refine ⟨Nat.one_pos, fun _ _ => hs, rfl, fun p q hp hq _ => by omega, fun u hu => ?_, fun _ _ => h0, fun _ _ => hsk, vs, clo0, by simp, rfl, fun q _ g => absurd rfl g, fun _ _ _ _ => Nat.le_refl _, fun _ _ _ => by omega, fun p hp => absurd hp (Nat.not_lt_zero _), fun _ l hl => absurd hl (Nat.not_lt_zero _), fun d _ q k _ _ g => by omega⟩
  by_cases e : u = s
  · subst e; rw [if_pos rfl]
    exact ⟨fun _ => .inr ⟨0, Nat.one_pos, rfl⟩, fun _ => by omega⟩
  · rw [if_neg e, hv u hu]
    exact ⟨.inl, fun g => g.resolve_right fun ⟨_, _, e'⟩ => e e'.symm⟩

/-- An arc that leads to nothing new. -/
theorem skip (h : Bf n L arc to cap sink s V0 via dep Q m i j) (hi : i < m) (hlt : to (arc (Q i) j) < n) (hx : cap (arc (Q i) j) = 0 ∨ via (to (arc (Q i) j)) ≠ -1) : Bf n L arc to cap sink s V0 via dep Q m i (j + 1) := by
  refine ⟨h.pos, h.lt, h.first0, h.nod, h.vis, h.disj, h.snk, h.vs, h.clo0, h.via0, h.dep0, h.par, h.mono, h.up, h.done, fun hi' l hl hL hc => ?_, h.first⟩
  by_cases e : l = j
  · subst e
    have hv := hx.resolve_left hc
    rcases (h.vis _ hlt).1 hv with g | ⟨q, h1, h2⟩
    · exact .inl g
    · exact .inr ⟨q, h1, h2, h.up hi q h1⟩
  · exact h.doing hi l (by omega) hL hc

/-- The next point. -/
theorem next (h : Bf n L arc to cap sink s V0 via dep Q m i j) (hi : i < m) (hj : L (Q i) ≤ j) : Bf n L arc to cap sink s V0 via dep Q m (i + 1) 0 := by
  refine ⟨h.pos, h.lt, h.first0, h.nod, h.vis, h.disj, h.snk, h.vs, h.clo0, h.via0, h.dep0, fun q hq g => ?_, h.mono, fun hi' q hq => ?_, fun p hp hpm l hl hc => ?_, fun _ l hl => absurd hl (Nat.not_lt_zero _), h.first⟩
  · obtain ⟨p, a, l, h1, h2, hr⟩ := h.par q hq g
    exact ⟨p, a, l, h1, by omega, hr⟩
  · have := h.up hi q hq
    have := h.mono i (i + 1) (by omega) hi'
    omega
  · by_cases e : p = i
    · subst e; exact h.doing hi l (by omega) hl hc
    · exact h.done p (by omega) hpm l hl hc

/-- A new point. -/
theorem add (h : Bf n L arc to cap sink s V0 via dep Q m i j) (hi : i < m) (hj : j < L (Q i)) (hlt : to (arc (Q i) j) < n) (hc : cap (arc (Q i) j) ≠ 0) (hv : via (to (arc (Q i) j)) = -1) (hs : to (arc (Q i) j) ≠ sink) (htl : to (x (arc (Q i) j)) = Q i) :
    Bf n L arc to cap sink s V0 (fun u => if u = to (arc (Q i) j) then ((arc (Q i) j : Nat) : Int) else via u) (fun u => if u = to (arc (Q i) j) then dep (Q i) + 1 else dep u) (fun q => if q = m then to (arc (Q i) j) else Q q) (m + 1) i (j + 1) := by
  generalize hb : arc (Q i) j = b at *
  have hnew : ¬ (V0 (to b) ∨ ∃ q, q < m ∧ Q q = to b) := fun g => (h.vis _ hlt).2 g hv
  have hne : ∀ q, q < m → Q q ≠ to b := fun q hq e => hnew (.inr ⟨q, hq, e⟩)
  have hQ : ∀ q, q < m → (if q = m then to b else Q q) = Q q := fun q hq => if_neg (by omega)
  have hD : ∀ q, q < m → (if Q q = to b then dep (Q i) + 1 else dep (Q q)) = dep (Q q) := fun q hq => if_neg (hne q hq)
  have hV : ∀ q, q < m → (if Q q = to b then ((b : Nat) : Int) else via (Q q)) = via (Q q) := fun q hq => if_neg (hne q hq)
  have hsn : s ≠ to b := by have := hne 0 h.pos; rwa [h.first0] at this
  refine ⟨by omega, fun q hq => ?_, ?_, fun p q hp hq e => ?_, fun u hu => ?_, fun q hq => ?_, fun q hq => ?_, h.vs, h.clo0, ?_, ?_, fun q hq g => ?_, fun p q hpq hq => ?_, fun _ q hq => ?_, fun p hp hpm l hl hcl => ?_, fun _ l hl hL hcl => ?_, fun d hd q k hq hkd hk hdq hno => ?_⟩
  · split
    · exact hlt
    · exact h.lt q (by omega)
  · rw [hQ 0 h.pos]; exact h.first0
  · by_cases e1 : p = m
    · by_cases e2 : q = m
      · omega
      · rw [if_pos e1, if_neg e2] at e; exact absurd e.symm (hne q (by omega))
    · by_cases e2 : q = m
      · rw [if_neg e1, if_pos e2] at e; exact absurd e (hne p (by omega))
      · rw [if_neg e1, if_neg e2] at e; exact h.nod p q (by omega) (by omega) e
  · by_cases e : u = to b
    · rw [if_pos e]
      exact ⟨fun _ => .inr ⟨m, by omega, by rw [if_pos rfl, e]⟩, fun _ => by omega⟩
    · rw [if_neg e, h.vis u hu]
      constructor
      · rintro (g | ⟨q, h1, h2⟩)
        · exact .inl g
        · exact .inr ⟨q, by omega, by rw [hQ q h1]; exact h2⟩
      · rintro (g | ⟨q, h1, h2⟩)
        · exact .inl g
        · by_cases e2 : q = m
          · rw [if_pos e2] at h2; exact absurd h2.symm e
          · rw [if_neg e2] at h2; exact .inr ⟨q, by omega, h2⟩
  · split
    · exact fun g => hnew (.inl g)
    · exact h.disj q (by omega)
  · split
    · exact hs
    · exact h.snk q (by omega)
  · rw [if_neg hsn]; exact h.via0
  · rw [if_neg hsn]; exact h.dep0
  · by_cases e : q = m
    · refine ⟨i, b, j, by omega, Nat.le_refl _, ?_, ?_, ?_, hc, ?_, ?_, ?_⟩
      · rw [if_pos e, if_pos rfl]
      · rw [if_pos e]
      · rw [hQ i hi]; exact htl
      · rw [hQ i hi]; exact hj
      · rw [hQ i hi]; exact hb
      · rw [if_pos e, if_pos rfl, hQ i hi, hD i hi]
    · rw [if_neg e] at g ⊢
      have hq' : q < m := by omega
      obtain ⟨p, a, l, h1, h2, h3, h4, h5, h6, h7, h8, h9⟩ := h.par q hq' g
      refine ⟨p, a, l, by omega, h2, ?_, h4, ?_, h6, ?_, ?_, ?_⟩
      · rw [hV q hq']; exact h3
      · rw [hQ p h1]; exact h5
      · rw [hQ p h1]; exact h7
      · rw [hQ p h1]; exact h8
      · rw [hQ p h1, hD q hq', hD p h1]; exact h9
  · by_cases e : q = m
    · rw [if_pos e, if_pos rfl]
      by_cases e2 : p = m
      · rw [if_pos e2, if_pos rfl]; omega
      · rw [if_neg e2, hD p (by omega)]; exact h.up hi p (by omega)
    · rw [if_neg e, hQ p (by omega), hD p (by omega), hD q (by omega)]; exact h.mono p q hpq (by omega)
  · rw [hQ i hi, hD i hi]
    by_cases e : q = m
    · rw [if_pos e, if_pos rfl]; omega
    · rw [if_neg e, hD q (by omega)]; exact h.up hi q (by omega)
  · rw [hQ p (by omega)] at hl hcl ⊢
    rcases h.done p hp (by omega) l hl hcl with g | ⟨q, h1, h2, h3⟩
    · exact .inl g
    · refine .inr ⟨q, by omega, by rw [hQ q h1]; exact h2, ?_⟩
      rw [hQ q h1, hD q h1, hD p (by omega)]; exact h3
  · rw [hQ i hi] at hL hcl ⊢
    rw [hD i hi]
    by_cases e : l = j
    · subst e
      rw [hb]
      refine .inr ⟨m, by omega, by rw [if_pos rfl], ?_⟩
      rw [if_pos rfl, if_pos rfl]; omega
    · rcases h.doing hi l (by omega) hL hcl with g | ⟨q, h1, h2, h3⟩
      · exact .inl g
      · refine .inr ⟨q, by omega, by rw [hQ q h1]; exact h2, ?_⟩
        rw [hQ q h1, hD q h1]; exact h3
  · by_cases e : q = m
    · subst e
      rw [if_pos rfl, if_pos rfl] at hk
      rw [if_pos rfl] at hdq
      have hk' : dep (Q i) = k := by omega
      have hno' : ∀ q', q' < q → dep (Q q') = k + 1 → ¬ Dist L arc to cap sink (Q q') (d - (k + 1)) := fun q' h1 h2 => by
        have := hno q' h1
        rw [hQ q' h1, hD q' h1] at this
        exact this h2
      obtain ⟨g1, g2, g3⟩ := h.greedy hi hj (by rw [hb]; exact hc) hd hk' hkd (by rw [hb]; exact hdq) hno'
      rw [hb] at g3
      refine ⟨i, b, by omega, by rw [hQ i hi, hD i hi]; exact hk', by rw [hQ i hi]; exact g1, fun p' h1 h2 => ?_, by rw [if_pos rfl, if_pos rfl], by rw [if_pos rfl], by rw [hQ i hi]; exact htl, by rw [hQ i hi]; exact g3⟩
      rw [hQ p' (by omega), hD p' (by omega)] at h2
      rw [hQ p' (by omega)]
      exact g2 p' h1 h2
    · have hq' : q < m := by omega
      rw [if_neg e] at hk hdq ⊢
      rw [hD q hq'] at hk
      have hno' : ∀ q', q' < q → dep (Q q') = k + 1 → ¬ Dist L arc to cap sink (Q q') (d - (k + 1)) := fun q' h1 h2 => by
        have := hno q' h1
        rw [hQ q' (by omega), hD q' (by omega)] at this
        exact this h2
      obtain ⟨p, a, h1, h2, h3, h4, h5, h6, h7, h8⟩ := h.first d hd q k hq' hkd hk hdq hno'
      refine ⟨p, a, by omega, by rw [hQ p h1, hD p h1]; exact h2, by rw [hQ p h1]; exact h3, fun p' g1 g2 => ?_, by rw [hV q hq']; exact h5, h6, by rw [hQ p h1]; exact h7, by rw [hQ p h1]; exact h8⟩
      rw [hQ p' (by omega), hD p' (by omega)] at g2
      rw [hQ p' (by omega)]
      exact h4 p' g1 g2

/-- The search ends: what it has seen is closed. -/
theorem over (h : Bf n L arc to cap sink s V0 via dep Q m m 0) : (∀ v i, (V0 v ∨ ∃ q, q < m ∧ Q q = v) → i < L v → cap (arc v i) ≠ 0 → (V0 (to (arc v i)) ∨ ∃ q, q < m ∧ Q q = to (arc v i))) ∧ ¬ (V0 sink ∨ ∃ q, q < m ∧ Q q = sink) := by
  refine ⟨fun v i hv hi hc => ?_, fun g => ?_⟩
  · rcases hv with hv | ⟨q, hq, rfl⟩
    · exact .inl (h.clo0 v i hv hi hc)
    · rcases h.done q hq hq i hi hc with g | ⟨p, h1, h2, _⟩
      · exact .inl g
      · exact .inr ⟨p, h1, h2⟩
  · rcases g with g | ⟨q, hq, g⟩
    · exact h.vs g
    · exact h.snk q hq g
end Bf

end Go.Proofs.Qxb6604796a.Af
