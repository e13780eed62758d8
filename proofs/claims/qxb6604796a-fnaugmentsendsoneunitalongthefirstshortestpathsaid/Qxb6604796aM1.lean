/-
  THE MEMORY OF 'meet': the reduction's struct, the two rows of marks, the two queues.
-/
import Derived.Test.Qxb6604796aB3
import Derived.Test.Qxb6604796aMt
import Derived.Deep.AppendLies
namespace Go.Proofs.Qxb6604796a
open Go.RowKit Mt

theorem grown_setCell (w : World) (a : Addr) (v : Value) : w.grownBy (w.setCell a v) (some a.block) :=
  ⟨rfl, rfl, rfl, by simp [World.setCell], fun k _ h => Below.heap_setCell _ _ _ _ (fun e => h (by rw [e]))⟩

theorem grown_drew {w w' : World} {row : Option Nat} (h : w.grownBy w' row) : w.grownBy w'.drew row := ⟨h.os, h.tape, h.output, h.size, h.block⟩

theorem own_same {w w' : World} {base : Nat} {e : TypeId} {size : Nat} {v : Value} {n : Nat} {xs : List Value} (h : w.ownsRow base e size v n xs) (hb : ∀ g, v.ownBlock = some g → w'.heap[g]? = w.heap[g]?) : w'.ownsRow base e size v n xs := by
  obtain ⟨h1, h2⟩ := h
  refine ⟨h1, ?_⟩
  rcases h2 with h2 | ⟨g, cap, cur, hv, hg, hh, r⟩
  · exact .inl h2
  · subst hv
    exact .inr ⟨g, cap, cur, rfl, hg, by rw [hb g rfl]; exact hh, r⟩

theorem own_lt {w : World} {base : Nat} {e : TypeId} {size : Nat} {v : Value} {n : Nat} {xs : List Value} (h : w.ownsRow base e size v n xs) {g : Nat} (hg : v.ownBlock = some g) : base ≤ g ∧ g < w.heap.size := by
  rcases h.2 with ⟨rfl, _⟩ | ⟨g', cap, cur, rfl, hb, hh, _⟩
  · cases hg
  · have : g' = g := by simpa [Value.ownBlock] using hg
    subst this
    exact ⟨hb, (Array.getElem?_eq_some_iff.1 hh).1⟩

def ints (q : List Nat) : List Value := q.map fun (v : Nat) => Value.int .i64 v

theorem ints_append (q : List Nat) (u : Nat) : ints (q ++ [u]) = ints q ++ [.int .i64 u] := by simp [ints]

theorem ints_get {q : List Nat} {i v : Nat} (h : q[i]? = some v) : (ints q)[i]? = some (.int .i64 v) := by simp [ints, h]

/-- The memory while 'meet' runs. w: the world that it was called in. -/
structure MS (w : World) (n R A : Nat) (T : Nat → Nat) (t : Nat → Nat → Int) (qv : Nat → Value) (q : Nat → List Nat) (wr : World) : Prop where
  grown : w.grownBy wr (some R)
  rlt : R < w.heap.size
  size : w.heap.size + 3 ≤ wr.heap.size
  tlo : ∀ s, s < 2 → w.heap.size ≤ T s ∧ T s < w.heap.size + 2
  tne : T 0 ≠ T 1
  red : ∃ f, wr.rowIs R 66 44 f ∧ f 1 = .pointer (some ⟨A, 0, none⟩) ∧ (∀ s, s < 2 → f (15 + s) = .slice (some ⟨T s, 0, none⟩) n n) ∧ ∀ s, s < 2 → f (17 + s) = .slice none 0 0
  tow : ∀ s, s < 2 → wr.rowIs (T s) 3 n (fun i => .int .i64 (t s i))
  que : wr.rowIs (w.heap.size + 2) 59 2 qv
  own : ∀ s, s < 2 → wr.ownsRow (w.heap.size + 3) 3 1 (qv s) (q s).length (ints (q s))
  dis : ∀ g, (qv 0).ownBlock = some g → (qv 1).ownBlock = some g → False

section
variable {w wr w1 : World} {n R A : Nat} {T : Nat → Nat} {t : Nat → Nat → Int} {qv : Nat → Value} {q : Nat → List Nat}

/-- A change elsewhere. -/
theorem MS.other (h : MS w n R A T t qv q wr) {row : Option Nat} (hg : wr.grownBy w1 row) (hrow : ∀ X, row = some X → w.heap.size + 3 ≤ X ∧ ∀ s, s < 2 → (qv s).ownBlock ≠ some X) : MS w n R A T t qv q w1 := by
  have hsz := h.size
  have same : ∀ b, b < wr.heap.size → (b < w.heap.size + 3 ∨ ∃ s, s < 2 ∧ (qv s).ownBlock = some b) → w1.heap[b]? = wr.heap[b]? := by
    intro b hb hor
    refine hg.block b hb fun e => ?_
    obtain ⟨g1, g2⟩ := hrow b e.symm
    rcases hor with hor | ⟨s, hs, hor⟩
    · omega
    · exact g2 s hs hor
  have hR := h.rlt
  refine ⟨⟨hg.os.trans h.grown.os, hg.tape.trans h.grown.tape, hg.output.trans h.grown.output, Nat.le_trans h.grown.size hg.size, fun b hb hne => ?_⟩, h.rlt, Nat.le_trans hsz hg.size, h.tlo, h.tne, ?_, ?_, ?_, ?_, h.dis⟩
  · rw [same b (by omega) (.inl (by omega))]
    exact h.grown.block b hb hne
  · obtain ⟨f, hf, rest⟩ := h.red
    exact ⟨f, hf.of_block (same R (by omega) (.inl (by omega))), rest⟩
  · intro s hs
    have := h.tlo s hs
    exact (h.tow s hs).of_block (same _ (by omega) (.inl (by omega)))
  · exact h.que.of_block (same _ (by omega) (.inl (by omega)))
  · intro s hs
    exact own_same (h.own s hs) fun g hg' => same g (own_lt (h.own s hs) hg').2 (.inr ⟨s, hs, hg'⟩)

theorem MS.alloc (h : MS w n R A T t qv q wr) (o : Obj) : MS w n R A T t qv q (wr.alloc o) :=
  h.other (World.grownBy_alloc wr o none) (fun _ e => by cases e)

theorem MS.drew (h : MS w n R A T t qv q wr) : MS w n R A T t qv q wr.drew :=
  h.other (row := none) ⟨rfl, rfl, rfl, Nat.le_refl _, fun _ _ _ => rfl⟩ (fun _ e => by cases e)

/-- A mark. -/
theorem MS.mark (h : MS w n R A T t qv q wr) {s : Nat} (hs : s < 2) (u : Nat) (c : Int) :
    MS w n R A T (upd t s (fun i => if i = u then c else t s i)) qv q (wr.setCell ⟨T s, u, none⟩ (.int .i64 c)) := by
  have hT := h.tlo s hs
  have hR := h.rlt
  have same : ∀ b, b ≠ T s → (wr.setCell ⟨T s, u, none⟩ (.int .i64 c)).heap[b]? = wr.heap[b]? := fun b hb => Below.heap_setCell _ _ _ _ hb
  have hsz : (wr.setCell ⟨T s, u, none⟩ (.int .i64 c)).heap.size = wr.heap.size := by simp [World.setCell]
  refine ⟨⟨h.grown.os, h.grown.tape, h.grown.output, by rw [hsz]; exact h.grown.size, fun b hb hne => ?_⟩, h.rlt, by rw [hsz]; exact h.size, h.tlo, h.tne, ?_, ?_, ?_, ?_, h.dis⟩
  · rw [same b (by omega)]; exact h.grown.block b hb hne
  · obtain ⟨f, hf, rest⟩ := h.red
    exact ⟨f, hf.of_block (same R (by omega)), rest⟩
  · intro s' hs'
    by_cases e : s' = s
    · subst e
      refine ((h.tow _ hs').set u _).congr fun i _ => ?_
      rw [upd_same]
      by_cases e2 : i = u <;> simp [e2]
    · have hne : T s' ≠ T s := by
        have := h.tne
        have h01 : (s = 0 ∧ s' = 1) ∨ (s = 1 ∧ s' = 0) := by omega
        rcases h01 with ⟨rfl, rfl⟩ | ⟨rfl, rfl⟩
        · exact fun e => this e.symm
        · exact this
      rw [upd_other _ _ e]
      exact (h.tow _ hs').of_block (same _ hne)
  · exact h.que.of_block (same _ (by omega))
  · intro s' hs'
    refine own_same (h.own s' hs') fun g hg' => same g ?_
    have := (own_lt (h.own s' hs') hg').1
    omega

/-- A queue has grown, and lies in its variable. -/
theorem MS.push (h : MS w n R A T t qv q wr) {s : Nat} (hs : s < 2) {v' : Value} {q' : List Nat} (hg : wr.grownBy w1 (qv s).ownBlock) (ho : w1.ownsRow (w.heap.size + 3) 3 1 v' q'.length (ints q'))
    (hat : v'.ownBlock = (qv s).ownBlock ∨ v'.ownBlock = some wr.heap.size ∨ v'.ownBlock = none) : MS w n R A T t (upd qv s v') (upd q s q') (w1.setCell ⟨w.heap.size + 2, s, none⟩ v') := by
  have hR := h.rlt
  have hsz0 := h.size
  have hsz : (w1.setCell ⟨w.heap.size + 2, s, none⟩ v').heap.size = w1.heap.size := by simp [World.setCell]
  have same1 : ∀ b, b < wr.heap.size → some b ≠ (qv s).ownBlock → b ≠ w.heap.size + 2 → (w1.setCell ⟨w.heap.size + 2, s, none⟩ v').heap[b]? = wr.heap[b]? := fun b hb hne h2 => by
    rw [Below.heap_setCell _ _ _ _ h2]; exact hg.block b hb hne
  have notown : ∀ b, b < w.heap.size + 3 → some b ≠ (qv s).ownBlock := fun b hb e => by
    have := (own_lt (h.own s hs) e.symm).1
    omega
  refine ⟨⟨hg.os.trans h.grown.os, hg.tape.trans h.grown.tape, hg.output.trans h.grown.output, by rw [hsz]; exact Nat.le_trans h.grown.size hg.size, fun b hb hne => ?_⟩, h.rlt, by rw [hsz]; exact Nat.le_trans hsz0 hg.size, h.tlo, h.tne, ?_, ?_, ?_, ?_, ?_⟩
  · rw [same1 b (by omega) (notown b (by omega)) (by omega)]; exact h.grown.block b hb hne
  · obtain ⟨f, hf, rest⟩ := h.red
    exact ⟨f, hf.of_block (same1 R (by omega) (notown R (by omega)) (by omega)), rest⟩
  · intro s' hs'
    have hT := h.tlo s' hs'
    exact (h.tow _ hs').of_block (same1 _ (by omega) (notown _ (by omega)) (by omega))
  · have hq : w1.rowIs (w.heap.size + 2) 59 2 qv := h.que.of_block (hg.block _ (by omega) (notown _ (by omega)))
    refine (hq.set s v').congr fun i _ => ?_
    unfold upd
    rfl
  · intro s' hs'
    by_cases e : s' = s
    · subst e
      rw [upd_same, upd_same]
      refine own_same ho fun g hg' => Below.heap_setCell _ _ _ _ ?_
      have := (own_lt ho hg').1
      show g ≠ w.heap.size + 2
      omega
    · rw [upd_other _ _ e, upd_other _ _ e]
      refine own_same (h.own s' hs') fun g hg' => ?_
      have hlt := own_lt (h.own s' hs') hg'
      refine same1 g hlt.2 (fun e2 => ?_) (by omega)
      have h01 : (s = 0 ∧ s' = 1) ∨ (s = 1 ∧ s' = 0) := by omega
      rcases h01 with ⟨rfl, rfl⟩ | ⟨rfl, rfl⟩
      · exact h.dis g e2.symm hg'
      · exact h.dis g hg' e2.symm
  · intro g g0 g1
    have h01 : s = 0 ∨ s = 1 := by omega
    rcases h01 with rfl | rfl
    · rw [upd_same] at g0
      rw [upd_other _ _ (by omega)] at g1
      have hlt := own_lt (h.own 1 (by omega)) g1
      rcases hat with hat | hat | hat
      · exact h.dis g (by rw [← hat]; exact g0) g1
      · rw [g0] at hat; cases hat; omega
      · rw [g0] at hat; cases hat
    · rw [upd_same] at g1
      rw [upd_other _ _ (by omega)] at g0
      have hlt := own_lt (h.own 0 (by omega)) g0
      rcases hat with hat | hat | hat
      · exact h.dis g g0 (by rw [← hat]; exact g1)
      · rw [g1] at hat; cases hat; omega
      · rw [g1] at hat; cases hat

/-! ### What the walk reads -/

theorem MS.old (h : MS w n R A T t qv q wr) {b o : Nat} (hb : b < w.heap.size) (hne : b ≠ R) : wr.cell? ⟨b, o, none⟩ = w.cell? ⟨b, o, none⟩ :=
  World.cell?_of_block (w := w) (a := ⟨b, o, none⟩) (h.grown.block b hb fun e => hne (by simpa using e))

theorem MS.adj (h : MS w n R A T t qv q wr) : wr.cell? ⟨R, 1, none⟩ = some (.pointer (some ⟨A, 0, none⟩)) := by
  obtain ⟨f, hf, h1, _⟩ := h.red
  rw [hf.cell (by omega), h1]

theorem MS.towards (h : MS w n R A T t qv q wr) {s : Nat} (hs : s < 2) : wr.cell? ⟨R, 15 + s, none⟩ = some (.slice (some ⟨T s, 0, none⟩) n n) := by
  obtain ⟨f, hf, _, h2, _⟩ := h.red
  rw [hf.cell (by omega), h2 s hs]

theorem MS.meeting (h : MS w n R A T t qv q wr) {s : Nat} (hs : s < 2) : wr.cell? ⟨R, 17 + s, none⟩ = some (.slice none 0 0) := by
  obtain ⟨f, hf, _, _, h3⟩ := h.red
  rw [hf.cell (by omega), h3 s hs]

theorem MS.row (h : MS w n R A T t qv q wr) {lo hi : Nat} (hhi : hi ≤ R) {a : Option Addr} {l : Nat} {Z : Nat → Int} (hr : IRow w lo hi a l Z) : IRow wr lo hi a l Z :=
  hr.same fun b _ hb => h.grown.block b (by have := h.rlt; omega) fun e => by have : b = R := by simpa using e
                                                                              omega

theorem MS.rows (h : MS w n R A T t qv q wr) {lo hi : Nat} (hhi : hi ≤ R) {a : Option Addr} {l : Nat} {Aa : Nat → Option Addr} {L C : Nat → Nat} {Z : Nat → Nat → Int} (hr : IRows w lo hi a l Aa L C Z) : IRows wr lo hi a l Aa L C Z :=
  hr.same fun b _ hb => h.grown.block b (by have := h.rlt; omega) fun e => by have : b = R := by simpa using e
                                                                              omega
end

end Go.Proofs.Qxb6604796a
