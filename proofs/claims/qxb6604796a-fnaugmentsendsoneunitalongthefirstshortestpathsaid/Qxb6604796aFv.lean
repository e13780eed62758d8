/-
  THE FLOW, PATH BY PATH; the set that the starts still reach.
-/
import Derived.Test.Qxb6604796aFq
import Derived.Test.Qxb6604796aM7
namespace Go.Proofs.Qxb6604796a
open Go.RowKit Af
set_option linter.unusedVariables false

theorem I8.grow {w w' : World} {N lo hi : Nat} {a : Option Addr} {l : Nat} {Z : Nat → Int} (h : I8 w lo hi a l Z) (hb : Below N w w') (hN : hi ≤ N) (hw : w.heap.size ≤ w'.heap.size) (hh : hi ≤ w.heap.size) : I8 w' lo w'.heap.size a l Z :=
  (h.below hb hN).wide (Nat.le_refl _) (by omega)

/-- A clone of the capacities. -/
def Cap8 (N : Nat) (ga : Option Addr) (M Gb : Nat) (F : Nat → Int) (w : World) : Prop := (M = 0 ∨ ga = some ⟨Gb, 0, none⟩) ∧ (M = 0 ∨ (N ≤ Gb ∧ w.rowIs Gb 39 M (fun i => .int .i8 (caps F M i))))

theorem clone8_any (a : Option Addr) (len cap : Nat) (F : Nat → Int) (lo hi : Nat) (w : World) (hl : len ≤ 1048576) (hhi : hi ≤ w.heap.size) (h : I8 w lo hi a len F) :
    Calls Try.prog 18 #[.slice a len cap] w fun e w' => ∃ ga Gb, e = .returned (.slice ga len len) ∧ Cap8 w.heap.size ga len Gb F w' ∧ Below w.heap.size w w' := by
  cases a with
  | none =>
    obtain rfl : len = 0 := by
      rcases h with h | ⟨_, _, h, _⟩
      · exact h
      · cases h
    refine (clone8_nil cap w).mono ?_
    rintro e w' ⟨rfl, rfl⟩
    exact ⟨none, 0, rfl, ⟨.inl rfl, .inl rfl⟩, Below.refl _ _⟩
  | some ad =>
    refine (clone8_some ad len cap F lo hi w hl hhi h).mono ?_
    rintro e w' ⟨rfl, h1, h2⟩
    exact ⟨_, w.heap.size, rfl, ⟨.inr rfl, .inr ⟨Nat.le_refl _, h1.congr fun i hi => by unfold caps; rw [if_pos hi]⟩⟩, h2⟩

/-- The domain's rows, in natural numbers. -/
theorem FDom.nat {w : World} {hi : Nat} {n M : Nat} {L C : Nat → Nat} {Z : Nat → Nat → Int} {T F : Nat → Int} {l1 ls sk : Nat} {S : Nat → Int} {all : Bool} {bt ba bs : Option Addr} {A : Nat → Option Addr} (d : FDom n M L Z T F l1 ls S (sk : Int) all)
    (r1 : IRow w 0 hi bt M T) (r2 : IRows w 0 hi ba n A L C Z) (r3 : IRow w 0 hi bs ls S) :
    ∃ (hed : Nat → Nat) (arc : Nat → Nat → Nat) (st : Nat → Nat), Hid (Net n M L arc hed sk (caps F M)) ∧ Hid (IRow w 0 hi bt M (fun a => (hed a : Int))) ∧ Hid (IRows w 0 hi ba n A L C (fun v i => (arc v i : Int))) ∧ Hid (IRow w 0 hi bs ls (fun i => (st i : Int))) ∧
      Hid (∀ i, i < ls → st i < n ∧ st i ≠ sk) ∧ Hid (all = true → ∀ a, a < M → ∃ v i, v < n ∧ i < L v ∧ arc v i = a) :=
  ⟨fun a => (T a).toNat, fun v i => (Z v i).toNat, fun i => (S i).toNat, hidden d.net, hidden (r1.congr d.tto), hidden (r2.congr d.zz), hidden (r3.congr d.ss), hidden d.starts', hidden d.listed⟩

/-- Between the paths. -/
def A6 (w : World) (N base R V n M Gb : Nat) (vt va : Value) (hed : Nat → Nat) (sink ls : Nat) (st : Nat → Nat) (l0 : Nat → Int) (t : Nat) (wr : World) : Prop :=
  ∃ via l fq q, AS w N base R V n M Gb vt va via l fq fq q wr ∧ Flow6 M hed sink ls st l0 t l

/-- Stuck. -/
def S6 (w : World) (N base R V n M Gb : Nat) (vt va : Value) (L : Nat → Nat) (arc : Nat → Nat → Nat) (hed : Nat → Nat) (sink ls : Nat) (st : Nat → Nat) (l0 : Nat → Int) (t : Nat) (wr : World) : Prop :=
  ∃ via l fq q V0, AS w N base R V n M Gb vt va via l fq fq q wr ∧ Flow6 M hed sink ls st l0 t l ∧ Shut L arc hed l sink V0 ∧ ∀ i, i < ls → V0 (st i)

theorem zaug6 (w : World) (N base R V n M Gb : Nat) (at' ai asx ga : Option Addr) (ct ci cs cg ls lo hi : Nat) (A : Nat → Option Addr) (C : Nat → Nat) (L : Nat → Nat) (arc : Nat → Nat → Nat) (hed : Nat → Nat) (sink : Nat) (st : Nat → Nat) (l0 : Nat → Int) (t : Nat) (wr : World)
    (net : Net n M L arc hed sink l0) (hn : n ≤ 4096) (hM : M ≤ 4096) (hs : ls ≤ 4096) (hL : ∀ v, v < n → L v ≤ 131072) (hhi : hi ≤ N) (hN : N ≤ w.heap.size)
    (hto : IRow w lo hi at' M (fun a => (hed a : Int))) (hr : IRows w lo hi ai n A L C (fun v i => (arc v i : Int))) (hst : IRow w lo hi asx ls (fun i => (st i : Int))) (hsl : ∀ i, i < ls → st i < n ∧ st i ≠ sink)
    (hga : M = 0 ∨ ga = some ⟨Gb, 0, none⟩) (has : A6 w N base R V n M Gb (.slice at' M ct) (.slice ai n ci) hed sink ls st l0 t wr) :
    Calls Try.prog 20 #[.pointer (some ⟨R, 0, none⟩), .slice ga M cg, .slice asx ls cs, .int .i64 sink] wr fun e w' => (e = .returned (.bool true) ∧ A6 w N base R V n M Gb (.slice at' M ct) (.slice ai n ci) hed sink ls st l0 (t + 1) w') ∨ (e = .returned (.bool false) ∧ S6 w N base R V n M Gb (.slice at' M ct) (.slice ai n ci) L arc hed sink ls st l0 t w') := by
  obtain ⟨via, l, fq, q, hA, hF⟩ := has
  refine (zaugment w N base R V n M Gb at' ai asx ga ct ci cs cg ls lo hi A C L arc hed sink st l via fq q wr (hF.net net) hn hM hs hL hhi hN hto hr hst hsl hga hA).mono ?_
  rintro e w' ⟨via', l', fq', q', hA', hG⟩
  rcases hG with ⟨rfl, rfl, V0, h1, h2⟩ | ⟨rfl, k, V0, d, bs, via'', hk, h1, h2, h3, h4, rfl⟩
  · exact .inr ⟨rfl, _, _, _, _, V0, hA', hF, h1, h2⟩
  · exact .inl ⟨rfl, _, _, _, _, hA', hF.step net hk h3 h4⟩

/-- The capacities that are left, as a row. -/
theorem AS.row8 {w wr : World} {N base R V n M Gb : Nat} {vt va : Value} {via l : Nat → Int} {fq qv : Value} {q : List Nat} {ga : Option Addr} (h : AS w N base R V n M Gb vt va via l fq qv q wr) (hg : M = 0 ∨ ga = some ⟨Gb, 0, none⟩) : I8 wr 0 wr.heap.size ga M l := by
  rcases hg with g | rfl
  · exact .inl g
  · rcases h.got with g | ⟨g1, g2, g3, g4, g5⟩
    · exact .inl g
    · exact .inr ⟨Gb, 0, rfl, Nat.zero_le _, g5.lt, fun i hi => by rw [Nat.zero_add]; exact g5.cell hi⟩

/-- The links that still have room. -/
def zpos (l : Nat → Int) (arc : Nat → Nat → Nat) (hed : Nat → Nat) (v i : Nat) : Int := if 0 < l (arc v i) then (hed (arc v i) : Int) else -1

theorem zpos_in {l : Nat → Int} {arc : Nat → Nat → Nat} {hed : Nat → Nat} {L : Nat → Nat} {v u : Nat} (h : Mt.In L (zpos l arc hed) v u) : ∃ i, i < L v ∧ 0 < l (arc v i) ∧ hed (arc v i) = u := by
  obtain ⟨i, h1, h2⟩ := h
  unfold zpos at h2
  by_cases g : 0 < l (arc v i)
  · rw [if_pos g] at h2; exact ⟨i, h1, g, by omega⟩
  · rw [if_neg g] at h2; omega

theorem zpos_pos {l : Nat → Int} {arc : Nat → Nat → Nat} {hed : Nat → Nat} {v i a u : Nat} (ha : a = arc v i) (hu : u = hed a) (h : 0 < l a) : zpos l arc hed v i = (u : Int) := by
  subst hu; subst ha; unfold zpos; rw [if_pos h]

theorem zpos_neg {l : Nat → Int} {arc : Nat → Nat → Nat} {hed : Nat → Nat} {v i a : Nat} (ha : a = arc v i) (h : ¬ 0 < l a) : zpos l arc hed v i = -1 := by
  subst ha; unfold zpos; rw [if_neg h]

/-- What the starts reach: not the sink; and the cut is what was sent. -/
theorem s6_cut {n M : Nat} {L : Nat → Nat} {arc : Nat → Nat → Nat} {hed : Nat → Nat} {sink ls : Nat} {st : Nat → Nat} {l0 l : Nat → Int} {t : Nat} {V0 : Nat → Prop} {ρ : Nat → Bool} (h : Flow6 M hed sink ls st l0 t l) (net : Net n M L arc hed sink l0)
    (all : ∀ a, a < M → ∃ v i, v < n ∧ i < L v ∧ arc v i = a) (hsl : ∀ i, i < ls → st i < n ∧ st i ≠ sink) (sh : Shut L arc hed l sink V0) (hv : ∀ i, i < ls → V0 (st i))
    (hρ : ∀ u, u < n → (ρ u = true ↔ Mt.Reach L (zpos l arc hed) (Pk (fun i => (st i : Int)) ls) (fun _ => False) u)) : ρ sink = false ∧ cutSum ρ hed l0 M = t := by
  have h1 : ρ sink = false := by
    refine Bool.eq_false_iff.2 fun g => sh.vs ?_
    refine Mt.Reach.least (S := V0) ?_ ?_ ((hρ sink net.snk).1 g)
    · rintro u ⟨i, hi, e⟩
      have e' : ((st i : Nat) : Int) = (u : Int) := e
      have : st i = u := by omega
      rw [← this]; exact hv i hi
    · intro v u hv' hin _
      obtain ⟨i, g1, g2, g3⟩ := zpos_in hin
      rw [← g3]; exact sh.clo v i hv' g1 (by omega)
  refine ⟨h1, h.final net all (fun i hi => (hρ _ (hsl i hi).1).2 (Mt.Reach.start ⟨i, hi, rfl⟩)) h1 fun v hv' hs i hi hp => ?_⟩
  refine (hρ _ (net.tolt _ (net.arclt v hv' i hi))).2 (((hρ v hv').1 hs).step ⟨i, hi, ?_⟩ fun h => h)
  unfold zpos
  rw [if_pos hp]

theorem cut_step {S : Nat → Bool} {hed : Nat → Nat} {F : Nat → Int} {M k : Nat} (hk : k < M) : cutSum S hed (caps F M) (k + 1) = cutSum S hed (caps F M) k + (if S (hed (x k)) = true ∧ S (hed k) = false then F k else 0) := by
  rw [cutSum]; unfold caps; rw [if_pos hk]

end Go.Proofs.Qxb6604796a
