/-
  PLAIN: the path that 'augment' finds, and what a push along it does. No Go.
-/
import Derived.Test.Qxb6604796aAf
namespace Go.Proofs.Qxb6604796a.Af
set_option linter.unusedVariables false

/-- Back from q along 'via', to a start. -/
def Back (via : Nat → Int) (to : Nat → Nat) : List Nat → Nat → Prop
  | [], q => via q = -2
  | a :: as, q => via q = ((a : Nat) : Int) ∧ to a = q ∧ Back via to as (to (x a))

/-- .. ends at s. -/
def Ch (to : Nat → Nat) (s : Nat) : List Nat → Nat → Prop
  | [], q => q = s
  | a :: as, q => to a = q ∧ Ch to s as (to (x a))

/-- Each arc backward goes one step away from the sink. -/
def Lv (L : Nat → Nat) (arc : Nat → Nat → Nat) (to : Nat → Nat) (cap : Nat → Int) (sink : Nat) : List Nat → Nat → Prop
  | [], _ => True
  | a :: as, e => cap a ≠ 0 ∧ Dist L arc to cap sink (to a) e ∧ Dist L arc to cap sink (to (x a)) (e + 1) ∧ Lv L arc to cap sink as (e + 1)

/-- All of that. -/
structure Trail (n : Nat) (L : Nat → Nat) (arc : Nat → Nat → Nat) (to : Nat → Nat) (cap : Nat → Int) (sink s : Nat) (via : Nat → Int) (d e : Nat) (bs : List Nat) (q : Nat) : Prop where
  bck : Back via to bs q
  ch : Ch to s bs q
  lv : Lv L arc to cap sink bs e
  gp : ∀ rest, GP L arc to cap sink e q rest → GP L arc to cap sink d s (bs.reverse ++ rest)
  lst : ∀ a, a ∈ bs → ∃ v l, v < n ∧ l < L v ∧ arc v l = a

theorem Trail.cons {n : Nat} {L : Nat → Nat} {arc : Nat → Nat → Nat} {to : Nat → Nat} {cap : Nat → Int} {sink s : Nat} {via : Nat → Int} {d e : Nat} {bs : List Nat} {v a : Nat} (h : Trail n L arc to cap sink s via d (e + 1) bs v)
    (hn : v < n) (hd : Dist L arc to cap sink v (e + 1)) (hv : via (to a) = ((a : Nat) : Int)) (hx : to (x a) = v) (hg : G L arc to cap sink e v a) : Trail n L arc to cap sink s via d e (a :: bs) (to a) := by
  obtain ⟨i, g1, g2, g3, g4, g5⟩ := id hg
  refine ⟨⟨hv, rfl, by rw [hx]; exact h.bck⟩, ⟨rfl, by rw [hx]; exact h.ch⟩, ⟨g3, g4, by rw [hx]; exact hd, h.lv⟩, fun rest hr => ?_, fun b hb => ?_⟩
  · have := h.gp (a :: rest) ⟨hd, a, rest, rfl, hg, hr⟩
    simpa using this
  · rcases List.mem_cons.1 hb with rfl | hb
    · exact ⟨v, i, hn, g1, g2⟩
    · exact h.lst b hb

namespace Bf
variable {n : Nat} {L : Nat → Nat} {arc : Nat → Nat → Nat} {to : Nat → Nat} {cap : Nat → Int} {sink s : Nat} {V0 : Nat → Prop} {via : Nat → Int} {dep : Nat → Nat} {Q : Nat → Nat} {m i j : Nat}

/-- The first point of its depth on the way has the first shortest path. -/
theorem trace (h : Bf n L arc to cap sink s V0 via dep Q m i j) {via' : Nat → Int} (hv' : ∀ u, u ≠ sink → via' u = via u) {d : Nat} (hd : Dist L arc to cap sink s d) :
    ∀ k q, q < m → k ≤ d → dep (Q q) = k → Dist L arc to cap sink (Q q) (d - k) → (∀ q', q' < q → dep (Q q') = k → ¬ Dist L arc to cap sink (Q q') (d - k)) → ∃ bs, Trail n L arc to cap sink s via' d (d - k) bs (Q q) := by
  intro k
  induction k with
  | zero =>
    intro q hq _ hk _ _
    have e : Q q = s := Classical.byContradiction fun g => by
      obtain ⟨p, a, l, _, _, _, _, _, _, _, _, h9⟩ := h.par q hq g
      omega
    refine ⟨[], ?_⟩
    rw [e]
    have hs : s ≠ sink := by have := h.snk q hq; rwa [e] at this
    exact ⟨by show via' s = -2; rw [hv' s hs]; exact h.via0, rfl, trivial, fun rest hr => by simpa using hr, fun a ha => by cases ha⟩
  | succ k ih =>
    intro q hq hkd hk hdq hno
    obtain ⟨p, a, h1, h2, h3, h4, h5, h6, h7, h8⟩ := h.first d hd q k hq hkd hk hdq hno
    obtain ⟨bs, t⟩ := ih p h1 (by omega) h2 h3 h4
    have e1 : d - k = d - (k + 1) + 1 := by omega
    rw [e1] at t h3
    refine ⟨a :: bs, ?_⟩
    have := t.cons (a := a) (h.lt p h1) h3 (by rw [h6, hv' _ (h.snk q hq)]; exact h5) h7 h8
    rwa [h6] at this

/-- THE SINK IS FOUND: along the first shortest path. -/
theorem found (h : Bf n L arc to cap sink s V0 via dep Q m i j) (hi : i < m) (hj : j < L (Q i)) (hc : cap (arc (Q i) j) ≠ 0) (hs : to (arc (Q i) j) = sink) (htl : to (x (arc (Q i) j)) = Q i)
    {via' : Nat → Int} (hv' : ∀ u, u ≠ sink → via' u = via u) (hvs : via' sink = ((arc (Q i) j : Nat) : Int)) : ∃ d bs, Trail n L arc to cap sink s via' d 0 bs sink := by
  have hst : St L arc to cap sink (1 + dep (Q i)) s := h.back (dep (Q i)) i 1 hi rfl ⟨j, hj, hc, hs⟩
  obtain ⟨d, hdk, hd⟩ := hst.dist
  have hne : ∀ q, q < m → ¬ Dist L arc to cap sink (Q q) 0 := fun q hq g => h.snk q hq (dist_zero.1 g)
  have e : d = dep (Q i) + 1 := Classical.byContradiction fun g => by
    have hle : d ≤ dep (Q i) := by omega
    have key : ∀ e, e ≤ d → ∃ q, q < m ∧ dep (Q q) = e ∧ Dist L arc to cap sink (Q q) (d - e) := by
      intro e
      induction e with
      | zero => exact fun _ => ⟨0, h.pos, by rw [h.first0]; exact h.dep0, by rw [h.first0]; exact hd⟩
      | succ e ih =>
        intro he
        obtain ⟨q, q1, q2, q3⟩ := ih (by omega)
        have hqi : q < i := Nat.lt_of_not_le fun g => by have := h.mono i q g q1; omega
        rw [show d - e = d - (e + 1) + 1 by omega] at q3
        obtain ⟨l, g1, g2, g3⟩ := q3.down
        exact h.step hd q1 q2 he g3 (h.done q hqi q1 l g1 g2)
    obtain ⟨q, q1, _, q3⟩ := key d (Nat.le_refl _)
    rw [Nat.sub_self] at q3
    exact hne q q1 q3
  have hdz : d - (dep (Q i) + 1) = 0 := by omega
  obtain ⟨g1, g2, g3⟩ := h.greedy hi hj hc hd rfl (by omega) (by rw [hdz, hs]; exact dist_zero.2 rfl) (fun q hq _ => by rw [hdz]; exact hne q hq)
  obtain ⟨bs, t⟩ := h.trace hv' hd (dep (Q i)) i hi (by omega) rfl g1 g2
  rw [show d - dep (Q i) = 0 + 1 by omega] at t g1
  rw [hdz] at g3
  refine ⟨d, arc (Q i) j :: bs, ?_⟩
  have := t.cons (a := arc (Q i) j) (h.lt i hi) g1 (by rw [hs]; exact hvs) htl g3
  rwa [hs] at this
end Bf

/-- One unit off a, onto the other arc of its pair. -/
def push1 (l : Nat → Int) (a : Nat) : Nat → Int := fun b => if b = x a then l b + 1 else if b = a then l b - 1 else l b

/-- No push of these runs over. -/
def PushOk (to : Nat → Nat) : (Nat → Int) → List Nat → Prop
  | _, [] => True
  | l, a :: as => 1 ≤ l a ∧ l a ≤ 127 ∧ 0 ≤ l (x a) ∧ l (x a) ≤ 126 ∧ PushOk to (push1 l a) as

theorem push1_at (l : Nat → Int) (a : Nat) : push1 l a a = l a - 1 := by unfold push1; rw [if_neg (Ne.symm (x_ne a)), if_pos rfl]
theorem push1_x (l : Nat → Int) (a : Nat) : push1 l a (x a) = l (x a) + 1 := by unfold push1; rw [if_pos rfl]
theorem push1_other (l : Nat → Int) {a b : Nat} (h1 : b ≠ a) (h2 : b ≠ x a) : push1 l a b = l b := by unfold push1; rw [if_neg h2, if_neg h1]

theorem push1_pair (l : Nat → Int) (a b : Nat) : push1 l a b + push1 l a (x b) = l b + l (x b) := by
  by_cases h1 : b = a
  · subst h1; rw [push1_at, push1_x]; omega
  · by_cases h2 : b = x a
    · subst h2; rw [x_x, push1_at, push1_x]; omega
    · rw [push1_other l h1 h2, push1_other l (fun e => h2 (by rw [← e, x_x])) (fun e => h1 (x_inj e))]

theorem pushes_pair (as : List Nat) : ∀ (l : Nat → Int) (b : Nat), as.foldl push1 l b + as.foldl push1 l (x b) = l b + l (x b) := by
  induction as with
  | nil => intro l b; rfl
  | cons a as ih => intro l b; rw [List.foldl_cons, ih, push1_pair]

theorem PushOk.nonneg {to : Nat → Nat} : ∀ {as : List Nat} {l : Nat → Int}, PushOk to l as → (∀ b, 0 ≤ l b) → ∀ b, 0 ≤ as.foldl push1 l b := by
  intro as
  induction as with
  | nil => intro l _ h b; exact h b
  | cons a as ih =>
    intro l h h0 b
    rw [List.foldl_cons]
    refine ih h.2.2.2.2 (fun c => ?_) b
    have := h.1
    by_cases h1 : c = a
    · subst h1; rw [push1_at]; omega
    · by_cases h2 : c = x a
      · subst h2; rw [push1_x]; have := h0 (x a); omega
      · rw [push1_other l h1 h2]; exact h0 c

/-- A backward way to the sink can be pushed along. -/
theorem pushOk {L : Nat → Nat} {arc : Nat → Nat → Nat} {to : Nat → Nat} {cap : Nat → Int} {sink : Nat} (h0 : ∀ b, 0 ≤ cap b) (h1 : ∀ b, cap b + cap (x b) ≤ 127) : ∀ (as : List Nat) (e : Nat) (l : Nat → Int), Lv L arc to cap sink as e →
    (∀ b, l b ≠ cap b → ∃ e', e' < e ∧ ((Dist L arc to cap sink (to b) e' ∧ Dist L arc to cap sink (to (x b)) (e' + 1)) ∨ (Dist L arc to cap sink (to (x b)) e' ∧ Dist L arc to cap sink (to b) (e' + 1)))) → PushOk to l as := by
  intro as
  induction as with
  | nil => intro e l _ _; trivial
  | cons a as ih =>
    intro e l ⟨g1, g2, g3, g4⟩ hl
    have ea : l a = cap a := Classical.byContradiction fun hne => by
      obtain ⟨e', h2, h3 | h3⟩ := hl a hne
      · have := h3.1.unique g2; omega
      · have := h3.1.unique g3; omega
    have ex : l (x a) = cap (x a) := Classical.byContradiction fun hne => by
      obtain ⟨e', h2, h3 | h3⟩ := hl (x a) hne
      · have := h3.1.unique g3; omega
      · rw [x_x] at h3; have := h3.1.unique g2; omega
    have := h0 a
    have := h0 (x a)
    have := h1 a
    refine ⟨by omega, by omega, by omega, by omega, ih (e + 1) _ g4 fun b hb => ?_⟩
    by_cases c1 : b = a
    · subst c1; exact ⟨e, by omega, .inl ⟨g2, g3⟩⟩
    · by_cases c2 : b = x a
      · subst c2; rw [x_x]; exact ⟨e, by omega, .inr ⟨g2, g3⟩⟩
      · rw [push1_other l c1 c2] at hb
        obtain ⟨e', h2, h3⟩ := hl b hb
        exact ⟨e', by omega, h3⟩

/-- What the arcs below M that leave S hold. -/
def cutSum (S : Nat → Bool) (to : Nat → Nat) (l : Nat → Int) : Nat → Int
  | 0 => 0
  | a + 1 => cutSum S to l a + (if S (to (x a)) = true ∧ S (to a) = false then l a else 0)

def ind (b : Bool) : Int := if b = true then 1 else 0

theorem cut_push1 (S : Nat → Bool) (to : Nat → Nat) (l : Nat → Int) (b : Nat) : ∀ M, cutSum S to (push1 l b) M = cutSum S to l M - (if b < M ∧ S (to (x b)) = true ∧ S (to b) = false then 1 else 0) + (if x b < M ∧ S (to b) = true ∧ S (to (x b)) = false then 1 else 0)
  | 0 => by simp [cutSum]
  | M + 1 => by
    rw [cutSum, cutSum, cut_push1 S to l b M]
    by_cases h1 : M = b
    · subst h1
      have hx := x_ne M
      rw [push1_at]
      have n1 : ¬ (M < M) := by omega
      have n2 : (x M < M + 1) ↔ x M < M := by omega
      simp only [n1, n2, false_and, if_false, Nat.lt_succ_self, true_and]
      split <;> split <;> simp_all <;> omega
    · by_cases h2 : M = x b
      · subst h2
        have hx := x_ne b
        rw [push1_x, x_x]
        have n1 : ¬ (x b < x b) := by omega
        have n2 : (b < x b + 1) ↔ b < x b := by omega
        simp only [n1, n2, false_and, if_false, Nat.lt_succ_self, true_and]
        split <;> split <;> simp_all <;> omega
      · rw [push1_other l h1 h2]
        have n1 : (b < M + 1) ↔ b < M := by omega
        have n2 : (x b < M + 1) ↔ x b < M := by omega
        simp only [n1, n2]
        omega

theorem cut_push {S : Nat → Bool} {to : Nat → Nat} {l : Nat → Int} {b M : Nat} (hb : b < M) (hM : M % 2 = 0) : cutSum S to (push1 l b) M = cutSum S to l M + ind (S (to b)) - ind (S (to (x b))) := by
  rw [cut_push1]
  have h2 := x_lt hb hM
  simp only [hb, h2, true_and, ind]
  cases S (to b) <;> cases S (to (x b)) <;> simp

/-- A path takes what it crosses. -/
theorem cut_pushes {S : Nat → Bool} {to : Nat → Nat} {s M : Nat} (hM : M % 2 = 0) : ∀ (as : List Nat) (l : Nat → Int) (q : Nat), Ch to s as q → (∀ a, a ∈ as → a < M) → cutSum S to (as.foldl push1 l) M = cutSum S to l M + ind (S q) - ind (S s)
  | [], l, q, h, _ => by
    have : q = s := h
    subst this; simp only [List.foldl_nil]; omega
  | a :: as, l, q, h, hm => by
    rw [List.foldl_cons, cut_pushes hM as _ _ h.2 fun b hb => hm b (List.mem_cons_of_mem _ hb), cut_push (hm a List.mem_cons_self) hM, h.1]
    omega

theorem cut_nonneg {S : Nat → Bool} {to : Nat → Nat} {l : Nat → Int} : ∀ M, (∀ b, b < M → 0 ≤ l b) → 0 ≤ cutSum S to l M
  | 0, _ => Int.le_refl _
  | M + 1, h => by
    have := cut_nonneg (S := S) (to := to) M fun b hb => h b (by omega)
    rw [cutSum]
    split
    · have := h M (by omega); omega
    · omega

/-- The sum of the first M. -/
def sumTo (l : Nat → Int) : Nat → Int
  | 0 => 0
  | a + 1 => sumTo l a + l a

theorem cut_le_sum {S : Nat → Bool} {to : Nat → Nat} {l : Nat → Int} : ∀ M, (∀ b, b < M → 0 ≤ l b) → cutSum S to l M ≤ sumTo l M
  | 0, _ => Int.le_refl _
  | M + 1, h => by
    have := cut_le_sum (S := S) (to := to) M fun b hb => h b (by omega)
    have := h M (by omega)
    rw [cutSum, sumTo]
    split <;> omega

theorem cut_zero {S : Nat → Bool} {to : Nat → Nat} {l : Nat → Int} : ∀ M, (∀ b, b < M → S (to (x b)) = true → S (to b) = false → l b = 0) → cutSum S to l M = 0
  | 0, _ => rfl
  | M + 1, h => by
    rw [cutSum, cut_zero M fun b hb => h b (by omega)]
    split
    · rename_i g; rw [h M (by omega) g.1 g.2]; rfl
    · rfl

theorem sum_bounds {l : Nat → Int} {c : Int} (hc : 0 ≤ c) : ∀ M, (∀ b, b < M → 0 ≤ l b ∧ l b ≤ c) → 0 ≤ sumTo l M ∧ sumTo l M ≤ c * M
  | 0, _ => by simp [sumTo]
  | M + 1, h => by
    have := sum_bounds hc M fun b hb => h b (by omega)
    have := h M (by omega)
    rw [sumTo, show ((M + 1 : Nat) : Int) = (M : Int) + 1 by omega, Int.mul_add]
    omega

end Go.Proofs.Qxb6604796a.Af
