/-
  zzAugmentModel: its memory, its answer; zzEqualInt8.
-/
import Derived.Test.Qxb6604796aBb
namespace Go.Proofs.Qxb6604796a
open Go.RowKit Af
set_option linter.unusedVariables false

/-- What the model has done. -/
def Mdl (L : Nat → Nat) (arc : Nat → Nat → Nat) (hed : Nat → Nat) (sink ls : Nat) (st : Nat → Nat) (l l' : Nat → Int) (e : Ending) : Prop :=
  (e = .returned (.bool false) ∧ l' = l ∧ ∀ i, i < ls → ∀ k, ¬ St L arc hed l sink k (st i)) ∨
  (e = .returned (.bool true) ∧ ∃ k d p, k < ls ∧ (∀ i, i < k → ∀ k', ¬ St L arc hed l sink k' (st i)) ∧ GP L arc hed l sink d (st k) p ∧ l' = p.foldl push1 l)

/-- THE PLAIN LAW 5: 'augment' does as the model does. -/
theorem same5 {n : Nat} {L : Nat → Nat} {arc : Nat → Nat → Nat} {hed : Nat → Nat} {sink ls : Nat} {st : Nat → Nat} {l l1 l2 : Nat → Int} {e1 e2 : Ending} (h1 : Aug n L arc hed sink ls st l l1 e1) (h2 : Mdl L arc hed sink ls st l l2 e2) :
    l1 = l2 ∧ ∃ b, e1 = .returned (.bool b) ∧ e2 = .returned (.bool b) := by
  have no : ∀ {V0 : Nat → Prop} {v k : Nat}, Shut L arc hed l sink V0 → V0 v → ¬ St L arc hed l sink k v := fun sh hv => St.closed sh.vs sh.clo hv
  rcases h1 with ⟨a1, a2, V0, a3, a4⟩ | ⟨a1, k, V0, d, bs, via', a2, a3, a4, a5, a6, a7⟩
  · rcases h2 with ⟨b1, b2, b3⟩ | ⟨b1, k, d, p, b2, b3, b4, b5⟩
    · exact ⟨a2.trans b2.symm, false, a1, b1⟩
    · exact absurd b4.st.1 (no a3 (a4 k b2))
  · have hg : GP L arc hed l sink d (st k) bs.reverse := by
      have := a5.gp [] ⟨rfl, rfl⟩
      simpa using this
    rcases h2 with ⟨b1, b2, b3⟩ | ⟨b1, k2, d2, p, b2, b3, b4, b5⟩
    · exact absurd hg.st.1 (b3 k a2 d)
    · have ek : k = k2 := by
        rcases Nat.lt_trichotomy k k2 with c | c | c
        · exact absurd hg.st.1 (b3 k c d)
        · exact c
        · exact absurd b4.st.1 (no a3 (a4 k2 c))
      subst ek
      have ed := hg.st.unique b4.st
      subst ed
      have ep := hg.unique b4
      refine ⟨?_, true, a1, b1⟩
      rw [a7, b5, ← ep, pushes_reverse]

/-- The model's memory: the distances, the capacities, the path. -/
structure MP (w : World) (Wb n M : Nat) (δ l : Nat → Int) (qv : Value) (q : List Nat) (wr : World) : Prop where
  grown : w.grownBy wr (some Wb)
  big : w.heap.size < wr.heap.size
  dst : wr.rowIs w.heap.size 3 n (fun i => .int .i64 (δ i))
  wnt : M = 0 ∨ (Wb < w.heap.size ∧ wr.rowIs Wb 39 M (fun i => .int .i8 (l i)))
  own : wr.ownsRow (w.heap.size + 1) 3 1 qv q.length (ints q)

section
variable {w wr w1 : World} {Wb n M : Nat} {δ l : Nat → Int} {qv : Value} {q : List Nat}

theorem grown_of_below {N : Nat} {row : Option Nat} (h : Below N w wr) (hN : w.heap.size ≤ N) : w.grownBy wr row := ⟨h.os, h.tape, h.output, h.size, fun k hk _ => h.block k (by omega)⟩

theorem MP.start (h : D1 w n δ w1) (hw : M = 0 ∨ (Wb < w.heap.size ∧ w.rowIs Wb 39 M (fun i => .int .i8 (l i)))) (d : Nat) (hd : d ≤ maxLen) : MP w Wb n M δ l (.slice (some ⟨w1.heap.size, 0, none⟩) 0 d) [] (w1.alloc (.cells (madeCells #[.int .i64 0] d) 3)) := by
  have hb : Below w.heap.size w (w1.alloc (.cells (madeCells #[.int .i64 0] d) 3)) := h.below.alloc (by have := h.big; omega) _
  refine ⟨grown_of_below hb (Nat.le_refl _), by have := h.big; simp; omega, h.row.alloc _, ?_, ?_⟩
  · rcases hw with g | ⟨g1, g2⟩
    · exact .inl g
    · exact .inr ⟨g1, g2.of_block (hb.block Wb g1)⟩
  · exact World.ownsRow_made w1 _ d (by have := h.big; omega) hd (by simp [madeCells])

theorem MP.grow (h : MP w Wb n M δ l qv q wr) {row : Option Nat} (hg : wr.grownBy w1 row) (hrow : ∀ X, row = some X → w.heap.size + 1 ≤ X) {qv' : Value} {q' : List Nat} (ho : w1.ownsRow (w.heap.size + 1) 3 1 qv' q'.length (ints q')) : MP w Wb n M δ l qv' q' w1 := by
  have hbig := h.big
  have same : ∀ b, b < w.heap.size + 1 → w1.heap[b]? = wr.heap[b]? := fun b hb => hg.block b (by omega) fun e => by have := hrow b e.symm; omega
  refine ⟨⟨hg.os.trans h.grown.os, hg.tape.trans h.grown.tape, hg.output.trans h.grown.output, Nat.le_trans h.grown.size hg.size, fun k hk hne => (same k (by omega)).trans (h.grown.block k hk hne)⟩, Nat.lt_of_lt_of_le hbig hg.size, h.dst.of_block (same _ (by omega)), ?_, ho⟩
  rcases h.wnt with g | ⟨g1, g2⟩
  · exact .inl g
  · exact .inr ⟨g1, g2.of_block (same Wb (by omega))⟩

theorem MP.drewN (h : MP w Wb n M δ l qv q wr) (k : Nat) : MP w Wb n M δ l qv q (wr.drewN k) := by
  have hb : (wr.drewN k).heap = wr.heap := by
    induction k with
    | zero => rfl
    | succ k ih => exact ih
  refine ⟨⟨?_, ?_, ?_, by rw [hb]; exact h.grown.size, fun b hb' hne => by rw [hb]; exact h.grown.block b hb' hne⟩, by rw [hb]; exact h.big, h.dst.of_block (by rw [hb]), ?_, own_same h.own fun g _ => by rw [hb]⟩
  · exact (below_drewN (Below.refl wr.heap.size wr) k).os.trans h.grown.os
  · exact (below_drewN (Below.refl wr.heap.size wr) k).tape.trans h.grown.tape
  · exact (below_drewN (Below.refl wr.heap.size wr) k).output.trans h.grown.output
  · rcases h.wnt with g | ⟨g1, g2⟩
    · exact .inl g
    · exact .inr ⟨g1, g2.of_block (by rw [hb])⟩

/-- One arc more on the path. -/
theorem MP.add {a : Option Addr} {c g cap u : Nat} {w2 : World} (h : MP w Wb n M δ l (.slice a q.length c) q wr) (ob : Obj) (hgrow : (wr.alloc ob).grownBy w2 (Value.slice a q.length c).ownBlock) (hown : w2.ownsRow (w.heap.size + 1) 3 1 (.slice (some ⟨g, 0, none⟩) (q.length + 1) cap) (q.length + 1) (ints q ++ [.int .i64 (u : Int)])) :
    MP w Wb n M δ l (.slice (some ⟨g, 0, none⟩) (q.length + 1) cap) (q ++ [u]) w2 := by
  have h2 := h.grow (World.grownBy_alloc _ ob none) (fun _ e => by cases e) (own_same h.own fun g hg => by
    have := own_lt h.own hg
    exact (World.grownBy_alloc _ ob none).block g this.2 (fun e => by cases e))
  exact h2.grow hgrow (fun X e => (own_lt h2.own e).1) (by rw [List.length_append, ints_append]; exact hown)

/-- A capacity is set. -/
theorem MP.left (h : MP w Wb n M δ l qv q wr) (hM : 0 < M) (u : Nat) (c : Int) : MP w Wb n M δ (fun i => if i = u then c else l i) qv q (wr.setCell ⟨Wb, u, none⟩ (.int .i8 c)) := by
  rcases h.wnt with g | ⟨g1, g2⟩
  · omega
  have hs : ∀ b, b ≠ Wb → (wr.setCell ⟨Wb, u, none⟩ (.int .i8 c)).heap[b]? = wr.heap[b]? := fun b hb => Below.heap_setCell _ _ _ _ hb
  have hz : (wr.setCell ⟨Wb, u, none⟩ (.int .i8 c)).heap.size = wr.heap.size := by simp [World.setCell]
  refine ⟨⟨h.grown.os, h.grown.tape, h.grown.output, by rw [hz]; exact h.grown.size, fun k hk hne => (hs k fun e => hne (by rw [e])).trans (h.grown.block k hk hne)⟩, by rw [hz]; exact h.big, h.dst.setOther (by show w.heap.size ≠ Wb; omega) _, .inr ⟨g1, (g2.set u _).congr fun i _ => ?_⟩, ?_⟩
  · by_cases e : i = u <;> simp [e]
  · refine own_same h.own fun g hg => hs g ?_
    have := (own_lt h.own hg).1
    omega

theorem MP.irow (h : MP w Wb n M δ l qv q wr) {lo hi k : Nat} {a : Option Addr} {Z : Nat → Int} (hr : IRow w lo hi a k Z) (h1 : hi ≤ w.heap.size) (h2 : hi ≤ Wb) : IRow wr lo hi a k Z :=
  hr.same fun b _ hb => h.grown.block b (by omega) fun e => by have : b = Wb := by simpa using e
                                                               omega

theorem MP.irows (h : MP w Wb n M δ l qv q wr) {lo hi k : Nat} {a : Option Addr} {A : Nat → Option Addr} {L C : Nat → Nat} {Z : Nat → Nat → Int} (hr : IRows w lo hi a k A L C Z) (h1 : hi ≤ w.heap.size) (h2 : hi ≤ Wb) : IRows wr lo hi a k A L C Z :=
  hr.same fun b _ hb => h.grown.block b (by omega) fun e => by have : b = Wb := by simpa using e
                                                               omega

theorem MP.leftAt (h : MP w Wb n M δ l qv q wr) {a : Nat} (ha : a < M) : wr.cell? ⟨Wb, a, none⟩ = some (.int .i8 (l a)) ∧ wr.frozen? ⟨Wb, a, none⟩ = false := by
  rcases h.wnt with g | ⟨_, g⟩
  · omega
  · exact ⟨g.cell ha, g.frozen a⟩
end

/-- What the model hands back. -/
def MdlRet (w : World) (Wb M : Nat) (L : Nat → Nat) (arc : Nat → Nat → Nat) (hed : Nat → Nat) (sink ls : Nat) (st : Nat → Nat) (l : Nat → Int) (e : Ending) (w' : World) : Prop :=
  ∃ l', w.grownBy w' (some Wb) ∧ (M = 0 ∨ (Wb < w.heap.size ∧ w'.rowIs Wb 39 M (fun i => .int .i8 (l' i)))) ∧ Mdl L arc hed sink ls st l l' e

/-- While the unit is moved. -/
def MPush (w : World) (Wb n M : Nat) (hed : Nat → Nat) (δ : Nat → Int) (qv : Value) (q : List Nat) (fin : Nat → Int) (k : Nat) (wr : World) : Prop :=
  ∃ l', MP w Wb n M δ l' qv q wr ∧ PushOk hed l' (q.drop k) ∧ (q.drop k).foldl push1 l' = fin

theorem drop_qf {q : List Nat} {k : Nat} (h : k < q.length) : q.drop k = qf q k :: q.drop (k + 1) := by
  rw [List.drop_eq_getElem_cons h]
  congr 1
  unfold qf
  rw [List.getD_eq_getElem?_getD, List.getElem?_eq_getElem h]; rfl

theorem MPush.step {w wr : World} {Wb n M : Nat} {hed : Nat → Nat} {δ l' : Nat → Int} {qv : Value} {q : List Nat} {fin : Nat → Int} {k a : Nat} (h : MP w Wb n M δ l' qv q wr) (hp : PushOk hed l' (q.drop k)) (hf : (q.drop k).foldl push1 l' = fin) (hk : k < q.length) (ha : a = qf q k) (hM : 0 < M) :
    (1 ≤ l' a ∧ l' a ≤ 127 ∧ 0 ≤ l' (x a) ∧ l' (x a) ≤ 126) ∧ ∀ c d : Int, c = l' a - 1 → d = l' (x a) + 1 → MPush w Wb n M hed δ qv q fin (k + 1) ((wr.setCell ⟨Wb, a, none⟩ (.int .i8 c)).setCell ⟨Wb, x a, none⟩ (.int .i8 d)) := by
  rw [drop_qf hk, ← ha] at hp hf
  obtain ⟨p1, p2, p3, p4, p5⟩ := hp
  refine ⟨⟨p1, p2, p3, p4⟩, fun c d hc hd => ⟨push1 l' a, ?_, p5, hf⟩⟩
  have h1 := (h.left hM a c).left hM (x a) d
  rw [push_eq hc hd] at h1; exact h1

/-- 'zzEqualInt8' of two rows that read alike. -/
theorem equal8 (a b : Option Addr) (M c1 c2 lo1 hi1 lo2 hi2 : Nat) (l : Nat → Int) (w : World) (hM : M ≤ 4096) (k1 : hi1 ≤ w.heap.size) (k2 : hi2 ≤ w.heap.size) (r1 : I8 w lo1 hi1 a M l) (r2 : I8 w lo2 hi2 b M l) :
    Calls Try.prog 22 #[.slice a M c1, .slice b M c2] w fun e w' => e = .returned (.bool true) ∧ Below w.heap.size w w' := by
  have R1 := hidden r1
  have R2 := hidden r2
  clear r1 r2
  go_enter Try.func22, Try.ntmps22
  go_wp2
  go_loopw [5] (fun i wr => ∃ k : Nat, k ≤ M ∧ i = .int .i64 k ∧ Below w.heap.size w wr) (fun i _ => M - (intOf i).toNat)
  case atStart => exact ⟨0, Nat.zero_le _, rfl, Below.refl _ _⟩
  case round =>
    obtain ⟨k, hk, rfl, hb⟩ := hrel
    have BB := hidden hb
    by_cases hlt : k < M
    · rcases (R1.out.below hb k1) with h0 | ⟨b1, o1, rfl, _, _, g1⟩
      · omega
      rcases (R2.out.below hb k2) with h0 | ⟨b2, o2, rfl, _, _, g2⟩
      · omega
      have e1 := g1 k hlt
      have e2 := g2 k hlt
      clear g1 g2 hb
      obtain ⟨z, hz⟩ : ∃ z, z = l k := ⟨_, rfl⟩
      rw [← hz] at e1 e2
      clear hz
      have hne : (z != z) = false := by simp
      go_wp2
      go_quiet (fail)
      go_wp2
      go_roundw
      case rel => exact ⟨k + 1, by omega, by go_num, below_drewN BB.out _⟩
      case measure => simp [intOf]; omega
    · have e : M = k := by omega
      subst e
      clear hb
      go_wp2
      go_ret
      exact ⟨rfl, BB.out⟩

end Go.Proofs.Qxb6604796a
