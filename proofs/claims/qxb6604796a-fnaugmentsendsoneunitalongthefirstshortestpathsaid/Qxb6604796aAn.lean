/-
  THE MEMORY OF 'augment': the flow's struct, its row 'via', the capacities, the queue.
-/
import Derived.Test.Qxb6604796aM4
import Derived.Test.Qxb6604796aAg
import Derived.Laws.BitsAllLaws
namespace Go.Proofs.Qxb6604796a
open Go.RowKit Af
set_option linter.unusedVariables false

theorem xor_one (a : Nat) : a ^^^ 1 = x a := by
  have h1 : (a ^^^ 1) / 2 = a / 2 := by rw [Nat.xor_div_two]; simp
  have h2 : (a ^^^ 1) % 2 = (a + 1) % 2 := by
    have h := Nat.testBit_xor a 1 0
    simp only [Nat.testBit_zero] at h
    have ha : a % 2 = 0 ∨ a % 2 = 1 := by omega
    have hb : (a ^^^ 1) % 2 = 0 ∨ (a ^^^ 1) % 2 = 1 := by omega
    rcases ha with ha | ha <;> rcases hb with hb | hb <;> simp [ha, hb] at h <;> omega
  unfold x
  split <;> omega

theorem bits_x (a : Nat) (h : a < 4096) : bits .xor .i64 (a : Int) 1 = ((x a : Nat) : Int) := by
  show IntKind.i64.wrap ((BitVec.ofInt 64 (a : Int) ^^^ BitVec.ofInt 64 1).toNat : Int) = _
  rw [BitVec.toNat_xor, ofInt_u64 a (by omega), show (BitVec.ofInt 64 1).toNat = 1 by decide, xor_one]
  have hx : x a < 4098 := by unfold x; split <;> omega
  simp [IntKind.wrap, IntKind.bits, IntKind.signed]
  omega

theorem inj_le : ∀ (n m : Nat) (Q : Nat → Nat), (∀ q, q < m → Q q < n) → (∀ p q, p < m → q < m → Q p = Q q → p = q) → m ≤ n
  | 0, m, Q, h, _ => Nat.le_of_not_lt fun g => absurd (h 0 g) (Nat.not_lt_zero _)
  | n + 1, m, Q, h, hi => by
    by_cases g : ∃ q0, q0 < m ∧ Q q0 = n
    · obtain ⟨q0, h0, e0⟩ := g
      have := inj_le n (m - 1) (fun q => if q = q0 then Q (m - 1) else Q q) (fun q hq => by
        by_cases e : q = q0
        · rw [if_pos e]
          have := h (m - 1) (by omega)
          have : Q (m - 1) ≠ n := fun e2 => by have := hi (m - 1) q0 (by omega) h0 (e2.trans e0.symm); omega
          omega
        · rw [if_neg e]
          have := h q (by omega)
          have : Q q ≠ n := fun e2 => e (hi q q0 (by omega) h0 (e2.trans e0.symm))
          omega) (fun p q hp hq e => by
        by_cases e1 : p = q0
        · by_cases e2 : q = q0
          · omega
          · rw [if_pos e1, if_neg e2] at e
            have := hi (m - 1) q (by omega) (by omega) e
            omega
        · by_cases e2 : q = q0
          · rw [if_neg e1, if_pos e2] at e
            have := hi p (m - 1) (by omega) (by omega) e
            omega
          · rw [if_neg e1, if_neg e2] at e
            exact hi p q (by omega) (by omega) e)
      omega
    · have := inj_le n m Q (fun q hq => by
        have := h q hq
        have : Q q ≠ n := fun e => g ⟨q, hq, e⟩
        omega) hi
      omega

/-- The queue as a function. -/
def qf (q : List Nat) (p : Nat) : Nat := q.getD p 0

theorem qf_append (q : List Nat) (u : Nat) : qf (q ++ [u]) = fun p => if p = q.length then u else qf q p := by
  funext p
  unfold qf
  rw [List.getD_append_eq_ite q u p]
where
  List.getD_append_eq_ite (q : List Nat) (u p : Nat) : (q ++ [u]).getD p 0 = if p = q.length then u else q.getD p 0 := by
    rw [List.getD_eq_getElem?_getD, List.getD_eq_getElem?_getD]
    by_cases h1 : p = q.length
    · subst h1; simp
    · rw [if_neg h1]
      by_cases h2 : p < q.length
      · rw [List.getElem?_append_left h2]
      · rw [List.getElem?_append_right (by omega), List.getElem?_eq_none (by simp; omega), List.getElem?_eq_none (by omega)]

theorem qf_get {q : List Nat} {p : Nat} (h : p < q.length) : q[p]? = some (qf q p) := by
  unfold qf
  rw [List.getD_eq_getElem?_getD, List.getElem?_eq_getElem h]; rfl

/-- The memory while 'augment' runs, and between its calls. w: a world in which all that it only reads stands, below N. -/
structure AS (w : World) (N base R V n M Gb : Nat) (vt va : Value) (via l : Nat → Int) (fq qv : Value) (q : List Nat) (wr : World) : Prop where
  below : Below N w wr
  rv : N ≤ R ∧ N ≤ V ∧ R < base ∧ V < base ∧ R ≠ V
  size : base ≤ wr.heap.size
  red : ∃ f, wr.rowIs R 52 7 f ∧ f 0 = vt ∧ f 1 = va ∧ f 5 = .slice (some ⟨V, 0, none⟩) n n ∧ f 6 = fq
  tow : wr.rowIs V 3 n (fun i => .int .i64 (via i))
  got : M = 0 ∨ (N ≤ Gb ∧ Gb < base ∧ Gb ≠ R ∧ Gb ≠ V ∧ wr.rowIs Gb 39 M (fun i => .int .i8 (l i)))
  own : wr.ownsRow base 3 1 qv q.length (ints q)

section
variable {w wr w1 : World} {N base R V n M Gb : Nat} {vt va : Value} {via l : Nat → Int} {fq qv : Value} {q : List Nat}

theorem AS.grow (h : AS w N base R V n M Gb vt va via l fq qv q wr) {row : Option Nat} (hg : wr.grownBy w1 row) (hrow : ∀ X, row = some X → base ≤ X) {qv' : Value} {q' : List Nat} (ho : w1.ownsRow base 3 1 qv' q'.length (ints q')) : AS w N base R V n M Gb vt va via l fq qv' q' w1 := by
  obtain ⟨r1, r2, r3, r4, r5⟩ := h.rv
  have hsz := h.size
  have same : ∀ b, b < base → w1.heap[b]? = wr.heap[b]? := fun b hb => hg.block b (by omega) fun e => by have := hrow b e.symm; omega
  refine ⟨h.below.trans ⟨hg.os, hg.tape, hg.output, hg.size, fun k hk => same k (by omega)⟩, h.rv, Nat.le_trans hsz hg.size, ?_, h.tow.of_block (same V r4), ?_, ho⟩
  · obtain ⟨f, hf, rest⟩ := h.red
    exact ⟨f, hf.of_block (same R r3), rest⟩
  · rcases h.got with g | ⟨g1, g2, g3, g4, g5⟩
    · exact .inl g
    · exact .inr ⟨g1, g2, g3, g4, g5.of_block (same Gb g2)⟩

theorem AS.drewN (h : AS w N base R V n M Gb vt va via l fq qv q wr) (k : Nat) : AS w N base R V n M Gb vt va via l fq qv q (wr.drewN k) := by
  induction k with
  | zero => exact h
  | succ k ih => exact ih.grow (w1 := (wr.drewN k).drew) (row := none) ⟨rfl, rfl, rfl, Nat.le_refl _, fun _ _ _ => rfl⟩ (fun _ e => by cases e) (own_same ih.own fun _ _ => rfl)

/-- 'via' is set. -/
theorem AS.mark (h : AS w N base R V n M Gb vt va via l fq qv q wr) (u : Nat) (c : Int) : AS w N base R V n M Gb vt va (fun i => if i = u then c else via i) l fq qv q (wr.setCell ⟨V, u, none⟩ (.int .i64 c)) := by
  obtain ⟨r1, r2, r3, r4, r5⟩ := h.rv
  refine ⟨h.below.setCell (by show N ≤ V; omega) _, h.rv, by have := h.size; simpa [World.setCell] using this, ?_, (h.tow.set u _).congr fun i _ => ?_, ?_, ?_⟩
  · obtain ⟨f, hf, rest⟩ := h.red
    exact ⟨f, hf.setOther (by show R ≠ V; omega) _, rest⟩
  · by_cases e : i = u <;> simp [e]
  · rcases h.got with g | ⟨g1, g2, g3, g4, g5⟩
    · exact .inl g
    · exact .inr ⟨g1, g2, g3, g4, g5.setOther (by show Gb ≠ V; omega) _⟩
  · refine own_same h.own fun g hg => Below.heap_setCell _ _ _ _ ?_
    have := (own_lt h.own hg).1
    show g ≠ V
    omega

/-- A capacity is set. -/
theorem AS.left (h : AS w N base R V n M Gb vt va via l fq qv q wr) (hM : 0 < M) (u : Nat) (c : Int) : AS w N base R V n M Gb vt va via (fun i => if i = u then c else l i) fq qv q (wr.setCell ⟨Gb, u, none⟩ (.int .i8 c)) := by
  obtain ⟨r1, r2, r3, r4, r5⟩ := h.rv
  rcases h.got with g | ⟨g1, g2, g3, g4, g5⟩
  · omega
  refine ⟨h.below.setCell (by show N ≤ Gb; omega) _, h.rv, by have := h.size; simpa [World.setCell] using this, ?_, h.tow.setOther (by show V ≠ Gb; omega) _, .inr ⟨g1, g2, g3, g4, (g5.set u _).congr fun i _ => ?_⟩, ?_⟩
  · obtain ⟨f, hf, rest⟩ := h.red
    exact ⟨f, hf.setOther (by show R ≠ Gb; omega) _, rest⟩
  · by_cases e : i = u <;> simp [e]
  · refine own_same h.own fun g hg => Below.heap_setCell _ _ _ _ ?_
    have := (own_lt h.own hg).1
    show g ≠ Gb
    omega

/-- The queue is kept. -/
theorem AS.keep (h : AS w N base R V n M Gb vt va via l fq qv q wr) (v : Value) : AS w N base R V n M Gb vt va via l v qv q (wr.setCell ⟨R, 6, none⟩ v) := by
  obtain ⟨r1, r2, r3, r4, r5⟩ := h.rv
  refine ⟨h.below.setCell (by show N ≤ R; omega) _, h.rv, by have := h.size; simpa [World.setCell] using this, ?_, h.tow.setOther (by show V ≠ R; omega) _, ?_, ?_⟩
  · obtain ⟨f, hf, f0, f1, f5, f6⟩ := h.red
    exact ⟨_, hf.set 6 v, by simp [f0], by simp [f1], by simp [f5], by simp⟩
  · rcases h.got with g | ⟨g1, g2, g3, g4, g5⟩
    · exact .inl g
    · exact .inr ⟨g1, g2, g3, g4, g5.setOther (by show Gb ≠ R; omega) _⟩
  · refine own_same h.own fun g hg => Below.heap_setCell _ _ _ _ ?_
    have := (own_lt h.own hg).1
    show g ≠ R
    omega

theorem own_empty {base : Nat} {a : Option Addr} {c k : Nat} {xs : List Value} (h : wr.ownsRow base 3 1 (.slice a k c) k xs) : wr.ownsRow base 3 1 (.slice a 0 c) 0 [] := by
  refine ⟨rfl, ?_⟩
  rcases h.2 with ⟨e, _⟩ | ⟨g, cap, cur, hv, hg, hh, h1, h2, h3, h4⟩
  · have : a = none ∧ k = 0 ∧ c = 0 := by simpa using e
    obtain ⟨rfl, rfl, rfl⟩ := this
    exact .inl ⟨rfl, rfl⟩
  · have : a = some ⟨g, 0, none⟩ ∧ c = cap := by simpa using hv
    obtain ⟨rfl, rfl⟩ := this
    exact .inr ⟨g, c, cur, rfl, hg, hh, Nat.zero_le _, h2, h3, by simp⟩

/-! ### What the walk reads -/

theorem AS.fields (h : AS w N base R V n M Gb vt va via l fq qv q wr) : wr.cell? ⟨R, 0, none⟩ = some vt ∧ wr.cell? ⟨R, 1, none⟩ = some va ∧ wr.cell? ⟨R, 5, none⟩ = some (.slice (some ⟨V, 0, none⟩) n n) ∧ wr.cell? ⟨R, 6, none⟩ = some fq ∧ wr.frozen? ⟨R, 6, none⟩ = false := by
  obtain ⟨f, hf, f0, f1, f5, f6⟩ := h.red
  exact ⟨by rw [hf.cell (by omega), f0], by rw [hf.cell (by omega), f1], by rw [hf.cell (by omega), f5], by rw [hf.cell (by omega), f6], hf.frozen 6⟩

theorem AS.viaAt (h : AS w N base R V n M Gb vt va via l fq qv q wr) {u : Nat} (hu : u < n) : wr.cell? ⟨V, u, none⟩ = some (.int .i64 (via u)) ∧ wr.frozen? ⟨V, u, none⟩ = false := ⟨h.tow.cell hu, h.tow.frozen u⟩

theorem AS.leftAt (h : AS w N base R V n M Gb vt va via l fq qv q wr) {a : Nat} (ha : a < M) : wr.cell? ⟨Gb, a, none⟩ = some (.int .i8 (l a)) ∧ wr.frozen? ⟨Gb, a, none⟩ = false := by
  rcases h.got with g | ⟨_, _, _, _, g5⟩
  · omega
  · exact ⟨g5.cell ha, g5.frozen a⟩
end

end Go.Proofs.Qxb6604796a
