import Derived.Test.Qxb6604796aM4
import Derived.Deep.RegionHeld3
import Derived.Deep.QuietTactic
import Derived.BigQuiet
import Derived.BigRegion
import Derived.Deep.DeepCutAuto
import Derived.Deep.CutBlock
namespace Go.Proofs.Qxb6604796a
open Go.RowKit Mt

theorem build59 (a1 a2 : Option Addr) (l1 c1 l2 c2 : Nat) (w : World) : (Instr.build 59 #[(0, .slice a1 l1 c1), (1, .slice a2 l2 c2)]).run Try.prog w = .ok (.agg #[.slice a1 l1 c1, .slice a2 l2 c2]) w := run_build w 59 _ _ (by kernel_rfl)

theorem keep5 (w : World) (R : Nat) (u v : Value) (o1 o2 : Obj) (hR : R < w.heap.size) :
    ((((w.setCell ⟨R, 15, none⟩ u).setCell ⟨R, 16, none⟩ v).alloc o1).alloc o2).drew.cell? ⟨R, 5, none⟩ = w.cell? ⟨R, 5, none⟩ := by
  show ((((w.setCell ⟨R, 15, none⟩ u).setCell ⟨R, 16, none⟩ v).alloc o1).alloc o2).cell? ⟨R, 5, none⟩ = _
  have e1 : ((w.setCell ⟨R, 15, none⟩ u).setCell ⟨R, 16, none⟩ v).heap.size = w.heap.size := by simp [World.setCell]
  have b1 := ((Below.refl w.heap.size ((w.setCell ⟨R, 15, none⟩ u).setCell ⟨R, 16, none⟩ v)).alloc (Nat.le_of_eq e1.symm) o1).alloc (by simp) o2
  rw [b1.cell (p := ⟨R, 5, none⟩) hR]
  simp [go_sem]

/-- The memory behind the two makes. -/
structure M0 (w : World) (n R A : Nat) (T : Nat → Nat) (wr : World) : Prop where
  grown : w.grownBy wr (some R)
  size : wr.heap.size = w.heap.size + 2
  tlo : ∀ s, s < 2 → w.heap.size ≤ T s ∧ T s < w.heap.size + 2
  tne : T 0 ≠ T 1
  red : ∃ f, wr.rowIs R 66 44 f ∧ f 1 = .pointer (some ⟨A, 0, none⟩) ∧ f 14 = .int .i64 0 ∧ (∀ s, s < 2 → f (15 + s) = .slice (some ⟨T s, 0, none⟩) n n) ∧ ∀ s, s < 2 → f (17 + s) = .slice none 0 0
  tow : ∀ s, s < 2 → wr.rowIs (T s) 3 n (fun _ => .int .i64 0)

theorem M0.mk' {w : World} {n R A : Nat} {f : Nat → Value} (hf : w.rowIs R 66 44 f) (f1 : f 1 = .pointer (some ⟨A, 0, none⟩)) (f14 : f 14 = .int .i64 0) (f15 : ∀ s, s < 4 → f (15 + s) = .slice none 0 0)
    (T : Nat → Nat) (hT : (T 0 = w.heap.size ∧ T 1 = w.heap.size + 1) ∨ (T 0 = w.heap.size + 1 ∧ T 1 = w.heap.size)) :
    M0 w n R A T ((((w.setCell ⟨R, 15, none⟩ (.slice (some ⟨T 0, 0, none⟩) n n)).setCell ⟨R, 16, none⟩ (.slice (some ⟨T 1, 0, none⟩) n n)).alloc (.cells (madeCells #[.int .i64 0] n) 3)).alloc (.cells (madeCells #[.int .i64 0] n) 3)).drew := by
  have e1 : ((w.setCell ⟨R, 15, none⟩ (.slice (some ⟨T 0, 0, none⟩) n n)).setCell ⟨R, 16, none⟩ (.slice (some ⟨T 1, 0, none⟩) n n)).heap.size = w.heap.size := by simp [World.setCell]
  generalize hw1 : (w.setCell ⟨R, 15, none⟩ (.slice (some ⟨T 0, 0, none⟩) n n)).setCell ⟨R, 16, none⟩ (.slice (some ⟨T 1, 0, none⟩) n n) = w1 at *
  have g1 : w.grownBy w1 (some R) := by
    rw [← hw1]
    exact ⟨rfl, rfl, rfl, by simp [World.setCell], fun k _ h => by
      have hk : k ≠ R := fun e => h (by rw [e])
      rw [Below.heap_setCell _ _ _ _ hk, Below.heap_setCell _ _ _ _ hk]⟩
  have r1 := ((hf.set 15 (.slice (some ⟨T 0, 0, none⟩) n n)).set 16 (.slice (some ⟨T 1, 0, none⟩) n n))
  rw [hw1] at r1
  have t0 : (w1.alloc (.cells (madeCells #[.int .i64 0] n) 3)).rowIs w.heap.size 3 n (fun _ => .int .i64 0) := by
    have := World.rowIs_made w1 (.int .i64 0) n 3
    rwa [e1] at this
  have t1 : ((w1.alloc (.cells (madeCells #[.int .i64 0] n) 3)).alloc (.cells (madeCells #[.int .i64 0] n) 3)).rowIs (w.heap.size + 1) 3 n (fun _ => .int .i64 0) := by
    have := World.rowIs_made (w1.alloc (.cells (madeCells #[.int .i64 0] n) 3)) (.int .i64 0) n 3
    rwa [show (w1.alloc (.cells (madeCells #[.int .i64 0] n) 3)).heap.size = w.heap.size + 1 by simp [e1]] at this
  have t0' := t0.alloc (.cells (madeCells #[.int .i64 0] n) 3)
  refine ⟨?_, by show ((w1.alloc _).alloc _).heap.size = _; simp [e1], ?_, ?_, ?_, ?_⟩
  · have a1 := World.grownBy_alloc w1 (.cells (madeCells #[.int .i64 0] n) 3) (some R)
    have a2 := World.grownBy_alloc (w1.alloc (.cells (madeCells #[.int .i64 0] n) 3)) (.cells (madeCells #[.int .i64 0] n) 3) (some R)
    exact grown_drew ((g1.trans a1).trans a2)
  · intro s hs
    have : s = 0 ∨ s = 1 := by omega
    rcases this with rfl | rfl <;> omega
  · omega
  · refine ⟨_, (r1.alloc _).alloc _, ?_, ?_, ?_, ?_⟩
    · simp [f1]
    · simp [f14]
    · intro s hs
      have : s = 0 ∨ s = 1 := by omega
      rcases this with rfl | rfl <;> simp
    · intro s hs
      have : s = 0 ∨ s = 1 := by omega
      rcases this with rfl | rfl
      · simpa using f15 2 (by omega)
      · simpa using f15 3 (by omega)
  · intro s hs
    have : s = 0 ∨ s = 1 := by omega
    rcases hT with ⟨e0, e1'⟩ | ⟨e0, e1'⟩
    · rcases this with rfl | rfl
      · rw [e0]; exact t0'
      · rw [e1']; exact t1
    · rcases this with rfl | rfl
      · rw [e0]; exact t1
      · rw [e1']; exact t0'

/-- .. and behind the round's count and the queues' variable. -/
theorem M0.start {w : World} {n R A : Nat} {T : Nat → Nat} {wr : World} (h : M0 w n R A T wr) (hR : R < w.heap.size) :
    MS w n R A T (fun _ _ => 0) (fun _ => .slice none 0 0) (fun _ => []) ((wr.setCell ⟨R, 14, none⟩ (.int .i64 1)).alloc (.cells #[.slice none 0 0, .slice none 0 0] 59)) := by
  have hsz : (wr.setCell ⟨R, 14, none⟩ (.int .i64 1)).heap.size = w.heap.size + 2 := by simp [World.setCell, h.size]
  have g2 : wr.grownBy (wr.setCell ⟨R, 14, none⟩ (.int .i64 1)) (some R) := grown_setCell wr ⟨R, 14, none⟩ _
  refine ⟨(h.grown.trans g2).trans (World.grownBy_alloc _ _ _), hR, by simp [hsz], h.tlo, h.tne, ?_, ?_, ?_, ?_, ?_⟩
  · obtain ⟨f, hf, f1, f14, f15, f17⟩ := h.red
    refine ⟨_, (hf.set 14 _).alloc _, by simp [f1], fun s hs => ?_, fun s hs => ?_⟩
    · rw [if_neg (by omega)]; exact f15 s hs
    · rw [if_neg (by omega)]; exact f17 s hs
  · intro s hs
    have := h.tlo s hs
    exact ((h.tow s hs).setOther (by show T s ≠ R; omega) _).alloc _
  · have := World.rowIs_alloc (wr.setCell ⟨R, 14, none⟩ (.int .i64 1)) #[.slice none 0 0, .slice none 0 0] 59 (fun _ => .slice none 0 0) (by
      intro i hi
      have : i = 0 ∨ i = 1 := by have : i < 2 := hi; omega
      rcases this with rfl | rfl <;> rfl)
    rwa [hsz] at this
  · intro s _
    exact ⟨rfl, .inl ⟨rfl, rfl⟩⟩
  · intro g h0
    cases h0

theorem MS.drewN {w wr : World} {n R A : Nat} {T : Nat → Nat} {t : Nat → Nat → Int} {qv : Nat → Value} {q : Nat → List Nat} (h : MS w n R A T t qv q wr) (k : Nat) : MS w n R A T t qv q (wr.drewN k) := by
  induction k with
  | zero => exact h
  | succ k ih => exact ih.drew

/-- Between the rounds of the loop that sets the two searches up: the sides below s are ready. -/
def L1at (w : World) (n R A : Nat) (T : Nat → Nat) (Z1 Z2 Z3 : Nat → Int) (l1 l2 l3 : Nat) (s : Nat) (wr : World) : Prop :=
  ∃ t qv q, MS w n R A T t qv q wr ∧ (∀ s', s' < s → Begun n (two Z1 Z2 s') (two Z1 Z2 (1 - s')) Z3 (two l1 l2 s') (two l1 l2 (1 - s')) l3 (t s') (q s')) ∧ ∀ s', s ≤ s' → s' < 2 → (∀ u, t s' u = 0) ∧ qv s' = .slice none 0 0 ∧ q s' = []

/-- Within a round: side s's marks are P2, P3. -/
def L1in (w : World) (n R A : Nat) (T : Nat → Nat) (Z1 Z2 Z3 : Nat → Int) (l1 l2 l3 : Nat) (s : Nat) (P2 P3 : Nat → Prop) (wr : World) : Prop :=
  ∃ t qv q, MS w n R A T t qv q wr ∧ (∀ s', s' < s → Begun n (two Z1 Z2 s') (two Z1 Z2 (1 - s')) Z3 (two l1 l2 s') (two l1 l2 (1 - s')) l3 (t s') (q s')) ∧ Mk n (t s) P2 P3 ∧ qv s = .slice none 0 0 ∧ q s = [] ∧
    ∀ s', s < s' → s' < 2 → (∀ u, t s' u = 0) ∧ qv s' = .slice none 0 0 ∧ q s' = []

section
variable {w : World} {n R A : Nat} {T : Nat → Nat} {Z1 Z2 Z3 : Nat → Int} {l1 l2 l3 : Nat} {s : Nat} {P2 P3 : Nat → Prop} {wr : World}

theorem L1at.enter (h : L1at w n R A T Z1 Z2 Z3 l1 l2 l3 s wr) (hs : s < 2) : L1in w n R A T Z1 Z2 Z3 l1 l2 l3 s (Pk Z3 0) (Pk Z3 0) wr := by
  obtain ⟨t, qv, q, h1, h2, h3⟩ := h
  obtain ⟨g1, g2, g3⟩ := h3 s (Nat.le_refl _) hs
  exact ⟨t, qv, q, h1, h2, fun u _ => ⟨fun h => absurd h Pk.zero, fun _ h => absurd h Pk.zero, fun _ _ => g1 u⟩, g2, g3, fun s' a b => h3 s' (by omega) b⟩

theorem L1in.congr {P2' P3' : Nat → Prop} (h : L1in w n R A T Z1 Z2 Z3 l1 l2 l3 s P2 P3 wr) (e2 : ∀ u, P2' u ↔ P2 u) (e3 : ∀ u, P3' u ↔ P3 u) : L1in w n R A T Z1 Z2 Z3 l1 l2 l3 s P2' P3' wr := by
  obtain ⟨t, qv, q, h1, h2, h3, rest⟩ := h
  exact ⟨t, qv, q, h1, h2, h3.congr e2 e3, rest⟩

theorem L1in.mark (h : L1in w n R A T Z1 Z2 Z3 l1 l2 l3 s P2 P3 wr) (hs : s < 2) (u : Nat) (c : Int) {P2' P3' : Nat → Prop} (hm : ∀ t, Mk n t P2 P3 → Mk n (fun i => if i = u then c else t i) P2' P3') :
    L1in w n R A T Z1 Z2 Z3 l1 l2 l3 s P2' P3' (wr.setCell ⟨T s, u, none⟩ (.int .i64 c)) := by
  obtain ⟨t, qv, q, h1, h2, h3, h4, h5, h6⟩ := h
  refine ⟨_, qv, q, h1.mark hs u c, fun s' hs' => ?_, ?_, h4, h5, fun s' a b => ?_⟩
  · rw [upd_other _ _ (by omega)]; exact h2 s' hs'
  · rw [upd_same]; exact hm _ h3
  · rw [upd_other _ _ (by omega)]; exact h6 s' a b

theorem L1in.ms (h : L1in w n R A T Z1 Z2 Z3 l1 l2 l3 s P2 P3 wr) : ∃ t qv q, MS w n R A T t qv q wr := by
  obtain ⟨t, qv, q, h1, _⟩ := h
  exact ⟨t, qv, q, h1⟩

/-- What the walk reads of the marks' row. -/
theorem L1in.reads (h : L1in w n R A T Z1 Z2 Z3 l1 l2 l3 s P2 P3 wr) (hs : s < 2) : wr.cell? ⟨R, 15 + s, none⟩ = some (.slice (some ⟨T s, 0, none⟩) n n) ∧ (∀ u, u < n → ∃ c, wr.cell? ⟨T s, u, none⟩ = some (.int .i64 c)) ∧ (∀ u, wr.frozen? ⟨T s, u, none⟩ = false) := by
  obtain ⟨t, qv, q, h1⟩ := h.ms
  exact ⟨h1.towards hs, fun u hu => ⟨_, (h1.tow s hs).cell hu⟩, fun u => (h1.tow s hs).frozen u⟩

theorem L1in.row (h : L1in w n R A T Z1 Z2 Z3 l1 l2 l3 s P2 P3 wr) {lo hi : Nat} (hhi : hi ≤ R) {a : Option Addr} {l : Nat} {Z : Nat → Int} (hr : IRow w lo hi a l Z) : IRow wr lo hi a l Z := by
  obtain ⟨t, qv, q, h1⟩ := h.ms
  exact h1.row hhi hr
end

theorem L1in.reads2 {w : World} {n R A : Nat} {T : Nat → Nat} {Z1 Z2 Z3 : Nat → Int} {l1 l2 l3 : Nat} {s : Nat} {P2 P3 : Nat → Prop} {wr : World} (h : L1in w n R A T Z1 Z2 Z3 l1 l2 l3 s P2 P3 wr) (hs : s < 2) :
    wr.cell? ⟨R, 17 + s, none⟩ = some (.slice none 0 0) ∧ wr.cell? ⟨w.heap.size + 2, s, none⟩ = some (.slice none 0 0) ∧ wr.frozen? ⟨w.heap.size + 2, s, none⟩ = false ∧ w.heap.size + 3 ≤ wr.heap.size := by
  obtain ⟨t, qv, q, h1, _, _, h4, _⟩ := h
  refine ⟨h1.meeting hs, ?_, h1.que.frozen s, h1.size⟩
  rw [h1.que.cell hs, h4]

theorem ints_one (q : List Nat) : ∀ u ∈ ints q, u.oneCell' = true := by
  intro u hu
  unfold ints at hu
  rw [List.mem_map] at hu
  obtain ⟨v, _, rfl⟩ := hu
  rfl

/-- The cells that are appended. -/
theorem news_of {wr : World} {b o l n : Nat} {Z : Nat → Int} (hz : ∀ i, i < l → 0 ≤ Z i ∧ Z i < n) (hc : ∀ i, i < l → wr.cell? ⟨b, o + i, none⟩ = some (.int .i64 (Z i))) :
    ∀ j u, (ints (nodes Z l))[j]? = some u → wr.cell? ((⟨b, o, none⟩ : Addr).add j) = some u := by
  intro j u hu
  have hj : j < l := by
    have := (List.getElem?_eq_some_iff.1 hu).1
    simpa [ints, nodes] using this
  rw [Go.WideShapes.add_plain, hc j hj, ← hu]
  have e : (((Z j).toNat : Nat) : Int) = Z j := Int.toNat_of_nonneg (hz j hj).1
  have : (ints (nodes Z l))[j]? = some (.int .i64 (((Z j).toNat : Nat) : Int)) := ints_get (by simp [nodes, hj])
  rw [this, e]

/-- Side s is ready. -/
theorem L1in.leave {w : World} {n R A : Nat} {T : Nat → Nat} {Z1 Z2 Z3 : Nat → Int} {l1 l2 l3 : Nat} {s : Nat} {wr w1 : World} (h : L1in w n R A T Z1 Z2 Z3 l1 l2 l3 s (Pk (two Z1 Z2 s) (two l1 l2 s)) (fun u => Pk (two Z2 Z1 s) (two l2 l1 s) u ∨ Pk Z3 l3 u) wr) (hs : s < 2)
    {v' : Value} (hg : wr.grownBy w1 none) (ho : w1.ownsRow (w.heap.size + 3) 3 1 v' (two l1 l2 s) (ints (nodes (two Z1 Z2 s) (two l1 l2 s)))) (hat : v'.ownBlock = some wr.heap.size ∨ v'.ownBlock = none) :
    L1at w n R A T Z1 Z2 Z3 l1 l2 l3 (s + 1) (w1.setCell ⟨w.heap.size + 2, s, none⟩ v') := by
  obtain ⟨t, qv, q, h1, h2, h3, h4, h5, h6⟩ := h
  have hp := h1.push (q' := nodes (two Z1 Z2 s) (two l1 l2 s)) hs (w1 := w1) (v' := v') (by rw [h4]; exact hg) (by rw [nodes_length]; exact ho) (.inr hat)
  refine ⟨t, _, _, hp, fun s' hs' => ?_, fun s' a b => ?_⟩
  · by_cases e : s' = s
    · subst e
      rw [upd_same]
      rw [two_swap Z1 Z2 hs, two_swap l1 l2 hs] at h3
      exact ⟨h3, rfl⟩
    · rw [upd_other _ _ e]; exact h2 s' (by omega)
  · rw [upd_other _ _ (by omega), upd_other _ _ (by omega)]
    exact h6 s' (by omega) b

theorem run_append_empty (ty : TypeId) (ah : Option Addr) (c : Nat) (w : World) : (Builtin.append_ #[26, 26] ty #[.slice none 0 0, .slice ah 0 c]).run Try.prog w = .ok (.slice none 0 0) w := by
  obtain ⟨i, hi, hz0, hz1, hz2⟩ := info_parts Try.info3
  cases ah <;> simp [Builtin.append_, run_underlying Try.underlying26, sizeOf, typeInfo, hi, Builtin.lenOf, Builtin.firstCells, loadCells, loadCellsFrom]

theorem wpList_append_empty (w : World) {ops : Array Oper} {rest : List Oper} {o : Oper} {a : Act} {Q : Exit → Act → World → Prop} (hgd : o.guard = none) (s x : Operand)
    (ho : o.op = .call { callee := .builtin .append, args := #[s, x], argTypes := #[26, 26] }) (hs : a.eval s = .slice none 0 0) (ah : Option Addr) (c : Nat) (hx : a.eval x = .slice ah 0 c)
    (h : wpList Try.prog ops Q rest (a.put o.dst (.slice none 0 0)) w) : wpList Try.prog ops Q (o :: rest) a w := by
  refine wpList_plain hgd fun K hK => ?_
  unfold Oper.wp execOp
  simp only [ho, resolve, invoke, builtin, Sem.run_bind, Sem.run_pure, Result.andThen_ok, List.map_toArray, List.map_cons, List.map_nil, hs, hx, run_append_empty]
  exact hK _ _ h

theorem ho_zero {w : World} {base g l cap : Nat} {xs : List Value} (h : w.ownsRow base 3 1 (.slice (some ⟨g, 0, none⟩) (0 + l) cap) (0 + l) ([] ++ xs)) : w.ownsRow base 3 1 (.slice (some ⟨g, 0, none⟩) l cap) l xs := by
  rw [Nat.zero_add, List.nil_append] at h; exact h

theorem ho_at {g l cap M : Nat} (h : (Value.slice none 0 0).ownBlock = some g ∨ g = M) : (Value.slice (some ⟨g, 0, none⟩) l cap).ownBlock = some M := by
  rcases h with h | h
  · cases h
  · rw [h]; rfl

theorem build73 (w : World) : (Instr.build 73 #[]).run Try.prog w = .ok (.agg #[.int .i64 0, .int .i64 0]) w := run_build w 73 _ _ (by kernel_rfl)

theorem in_lt {n : Nat} {L : Nat → Nat} {Z : Nat → Nat → Int} {l1 l2 l3 : Nat} {Z1 Z2 Z3 : Nat → Int} (d : Dom n L Z l1 Z1 l2 Z2 l3 Z3) {v u : Nat} (hv : v < n) (hi : Mt.In L Z v u) : u < n := by
  obtain ⟨i, h1, h2⟩ := hi
  have := d.rows v hv i h1
  omega

/-- Between the rounds of the search. -/
def L5at (w : World) (n R A : Nat) (T : Nat → Nat) (L : Nat → Nat) (Z : Nat → Nat → Int) (half blk : Nat → Nat → Prop) (l : Nat → Nat) (gk : Nat) (hp : Value) (wr : World) : Prop :=
  ∃ H t qv q h, hp = .pointer (some ⟨H, 0, none⟩) ∧ MH w n R A T L Z half blk l H t qv q h h wr ∧ h 0 + h 1 + gk = l 0 + l 1 + 2 * n

/-- Between the sides of one round. -/
def L6at (w : World) (n R A : Nat) (T : Nat → Nat) (L : Nat → Nat) (Z : Nat → Nat → Int) (half blk : Nat → Nat → Prop) (l : Nat → Nat) (H base s : Nat) (wr : World) : Prop :=
  ∃ t qv q h, MH w n R A T L Z half blk l H t qv q h h wr ∧ base ≤ h 0 + h 1 ∧ (base < h 0 + h 1 ∨ ∃ s', s ≤ s' ∧ s' < 2 ∧ h s' < (q s').length)

/-- Between the links of one node. -/
def L7at (w : World) (n R A : Nat) (T : Nat → Nat) (L : Nat → Nat) (Z : Nat → Nat → Int) (half blk : Nat → Nat → Prop) (l : Nat → Nat) (H base s v j : Nat) (wr : World) : Prop :=
  ∃ t qv q h, MH w n R A T L Z half blk l H t qv q h (upd h s (h s + 1)) wr ∧ (q s)[h s]? = some v ∧ base ≤ h 0 + h 1 ∧ ∀ i, i < j → t s (Z v i).toNat ≠ 0

section
variable {w wr : World} {n R A : Nat} {T : Nat → Nat} {L : Nat → Nat} {Z : Nat → Nat → Int} {half blk : Nat → Nat → Prop} {l : Nat → Nat} {H : Nat}

theorem L5at.start {t : Nat → Nat → Int} {qv : Nat → Value} {q : Nat → List Nat} (m : MS w n R A T t qv q wr) (i : Inv n L Z half blk l t q (fun _ => 0)) :
    L5at w n R A T L Z half blk l (l 0 + l 1 + 2 * n) (.pointer (some ⟨wr.heap.size, 0, none⟩)) (wr.alloc (.cells #[.int .i64 0, .int .i64 0] 73)) := by
  refine ⟨wr.heap.size, t, qv, q, fun _ => 0, rfl, ⟨m.alloc _, i, ?_, by have := m.size; omega, fun s hs e => ?_⟩, by simp⟩
  · exact World.rowIs_alloc wr #[.int .i64 0, .int .i64 0] 73 _ (by
      intro i hi
      have : i = 0 ∨ i = 1 := by have : i < 2 := hi; omega
      rcases this with rfl | rfl <;> rfl)
  · have := (own_lt (m.own s hs) e).2
    omega

theorem inv_total {t : Nat → Nat → Int} {q : Nat → List Nat} {h : Nat → Nat} (i : Inv n L Z half blk l t q h) {s : Nat} (hs : s < 2) : h s ≤ (q s).length ∧ (q s).length ≤ l s + n := by
  have := i.hle s hs
  have := i.len s hs
  omega

/-- The second side of the round has been gone through. -/
theorem L6at.done {gk base : Nat} (m : L6at w n R A T L Z half blk l H base 2 wr) (hb : base + gk = l 0 + l 1 + 2 * n) :
    ∃ hm : Nat → Nat, wr.cell? ⟨H, 0, none⟩ = some (.int .i64 (hm 0)) ∧ wr.cell? ⟨H, 1, none⟩ = some (.int .i64 (hm 1)) ∧
      ∃ gk', gk' < gk ∧ L5at w n R A T L Z half blk l gk' (.pointer (some ⟨wr.heap.size, 0, none⟩)) (wr.alloc (.cells #[.int .i64 (hm 0), .int .i64 (hm 1)] 73)) := by
  obtain ⟨t, qv, q, h, mh, h1, h2⟩ := m
  have h3 : base < h 0 + h 1 := by
    rcases h2 with h2 | ⟨s', a, b, _⟩
    · exact h2
    · omega
  have t0 := inv_total mh.inv (s := 0) (by omega)
  have t1 := inv_total mh.inv (s := 1) (by omega)
  refine ⟨h, mh.heads.cell (by omega), mh.heads.cell (by omega), l 0 + l 1 + 2 * n - (h 0 + h 1), by omega, wr.heap.size, t, qv, q, h, rfl, mh.renew, by omega⟩

theorem L6at.skip {base s : Nat} {t : Nat → Nat → Int} {qv : Nat → Value} {q : Nat → List Nat} {h : Nat → Nat} (m : MH w n R A T L Z half blk l H t qv q h h wr) (h1 : base ≤ h 0 + h 1) (h2 : base < h 0 + h 1 ∨ ∃ s', s ≤ s' ∧ s' < 2 ∧ h s' < (q s').length) (he : h s = (q s).length) :
    L6at w n R A T L Z half blk l H base (s + 1) wr := by
  refine ⟨t, qv, q, h, m, h1, ?_⟩
  rcases h2 with h2 | ⟨s', a, b, c⟩
  · exact .inl h2
  · refine .inr ⟨s', ?_, b, c⟩
    by_cases e : s' = s
    · subst e; omega
    · omega

theorem L7at.done {base s v : Nat} (m : L7at w n R A T L Z half blk l H base s v (L v) wr) (hs : s < 2) : L6at w n R A T L Z half blk l H base (s + 1) wr := by
  obtain ⟨t, qv, q, h, mh, hv, hb, hz⟩ := m
  have hi : Inv n L Z half blk l t q (upd h s (h s + 1)) := mh.inv.done hs hv fun u ⟨i, h1, h2⟩ => by
    have := hz i h1
    rwa [h2, Int.toNat_natCast] at this
  refine ⟨t, qv, q, _, mh.next hi, ?_, .inl ?_⟩
  all_goals
    have : s = 0 ∨ s = 1 := by omega
    rcases this with rfl | rfl
    · rw [upd_same, upd_other _ _ (by omega)]; omega
    · rw [upd_same, upd_other _ _ (by omega)]; omega
end

section
variable {w wr : World} {n R A : Nat} {T : Nat → Nat} {L : Nat → Nat} {Z : Nat → Nat → Int} {half blk : Nat → Nat → Prop} {l : Nat → Nat} {H base s v j : Nat} {t : Nat → Nat → Int} {qv : Nat → Value} {q : Nat → List Nat} {h : Nat → Nat}

theorem L6at.drewN {base s : Nat} (m : L6at w n R A T L Z half blk l H base s wr) (k : Nat) : L6at w n R A T L Z half blk l H base s (wr.drewN k) := by
  obtain ⟨t, qv, q, h, mh, rest⟩ := m
  exact ⟨t, qv, q, h, mh.drewN k, rest⟩

theorem L7at.start (m : MH w n R A T L Z half blk l H t qv q h h wr) (hs : s < 2) (hv : (q s)[h s]? = some v) (hb : base ≤ h 0 + h 1) (k : Nat) :
    L7at w n R A T L Z half blk l H base s v 0 ((wr.drewN k).setCell ⟨H, s, none⟩ (.int .i64 ((h s + 1 : Nat) : Int))) :=
  ⟨t, qv, q, h, (m.drewN k).step hs (h s + 1), hv, hb, fun _ h => absurd h (Nat.not_lt_zero _)⟩

theorem MH.reached {hm : Nat → Nat} (m : MH w n R A T L Z half blk l H t qv q h hm wr) (hs : s < 2) (hv : (q s)[h s]? = some v) : v < n ∧ Mt.Reach L Z (half s) (blk s) v := by
  have hmem : v ∈ q s := by
    obtain ⟨hlt, e⟩ := List.getElem?_eq_some_iff.1 hv
    rw [← e]; exact List.getElem_mem hlt
  obtain ⟨g1, g2⟩ := m.inv.que s hs v hmem
  exact ⟨g1, m.inv.rch s hs v g1 g2⟩

theorem L7at.pass (m : MH w n R A T L Z half blk l H t qv q h (upd h s (h s + 1)) wr) (hv : (q s)[h s]? = some v) (hb : base ≤ h 0 + h 1) (hz : ∀ i, i < j → t s (Z v i).toNat ≠ 0) {u : Nat} (hu : Z v j = (u : Int)) (h2 : t s u ≠ 0) :
    L7at w n R A T L Z half blk l H base s v (j + 1) wr := by
  refine ⟨t, qv, q, h, m, hv, hb, fun i hi => ?_⟩
  by_cases e : i = j
  · subst e; rw [hu, Int.toNat_natCast]; exact h2
  · exact hz i (by omega)

theorem L7at.push (m : MH w n R A T L Z half blk l H t qv q h (upd h s (h s + 1)) wr) (hv : (q s)[h s]? = some v) (hb : base ≤ h 0 + h 1) (hz : ∀ i, i < j → t s (Z v i).toNat ≠ 0) {u : Nat} (hj : j < L v) (hu : Z v j = (u : Int)) (hun : u < n) (hs : s < 2)
    (h0 : t s u = 0) (hx : t (1 - s) u ≠ 2) {w1 : World} {v' : Value} (ob : Obj)
    (hg : ((wr.setCell ⟨T s, u, none⟩ (.int .i64 2)).alloc ob).grownBy w1 (qv s).ownBlock) (ho : w1.ownsRow (w.heap.size + 3) 3 1 v' ((q s).length + 1) (ints (q s) ++ [.int .i64 u]))
    (hat : (qv s).ownBlock = v'.ownBlock ∨ v'.ownBlock = some (wr.heap.size + 1)) :
    L7at w n R A T L Z half blk l H base s v (j + 1) (w1.setCell ⟨w.heap.size + 2, s, none⟩ v') := by
  have hr := (m.reached hs hv).2
  refine ⟨_, _, _, h, m.push hs hun hr ⟨j, hj, hu⟩ h0 hx ob hg ho hat, ?_, hb, fun i hi => ?_⟩
  · rw [upd_same, List.getElem?_append_left (List.getElem?_eq_some_iff.1 hv).1]; exact hv
  · rw [upd_same]
    by_cases e : i = j
    · subst e; rw [hu, Int.toNat_natCast, if_pos rfl]; omega
    · split
      · omega
      · exact hz i (by omega)

/-- The queue's row, behind a mark and the one-element slice. -/
theorem MH.ownAt {hm : Nat → Nat} (m : MH w n R A T L Z half blk l H t qv q h hm wr) (hs : s < 2) {s' : Nat} (hs' : s' < 2) (u : Nat) (c : Value) (ob : Obj) :
    ((wr.setCell ⟨T s', u, none⟩ c).alloc ob).ownsRow (w.heap.size + 3) 3 1 (qv s) (q s).length (ints (q s)) := by
  have hT := m.ms.tlo s' hs'
  refine own_same (m.ms.own s hs) fun g hg => ?_
  have hlt := own_lt (m.ms.own s hs) hg
  rw [Below.heap_alloc _ _ _ (by simp [World.setCell]; omega)]
  exact Below.heap_setCell _ _ _ _ (by show g ≠ T s'; omega)
end

theorem hat_conv {x : Option Nat} {g l cap M : Nat} (h : x = some g ∨ g = M) : x = (Value.slice (some ⟨g, 0, none⟩) l cap).ownBlock ∨ (Value.slice (some ⟨g, 0, none⟩) l cap).ownBlock = some M := by
  rcases h with h | h
  · exact .inl h
  · right; rw [h]; rfl

theorem news_one (wr : World) (a : Addr) (c x : Value) : ∀ j u', [x][j]? = some u' → ((wr.setCell a c).alloc (.cells #[x] 3)).cell? ((⟨wr.heap.size, 0, none⟩ : Addr).add j) = some u' := by
  have := cell_one_new (wr.setCell a c) x 3
  rw [show (wr.setCell a c).heap.size = wr.heap.size by simp [World.setCell]] at this
  exact this

theorem far_cell {wr : World} {a p : Addr} {c : Value} {ob : Obj} (h1 : p.block ≠ a.block) (h2 : p.block < wr.heap.size) : ((wr.setCell a c).alloc ob).cell? p = wr.cell? p ∧ ((wr.setCell a c).alloc ob).frozen? p = wr.frozen? p := by
  have e : ((wr.setCell a c).alloc ob).heap[p.block]? = wr.heap[p.block]? := by
    rw [Below.heap_alloc _ _ _ (by simp [World.setCell]; exact h2)]
    exact Below.heap_setCell _ _ _ _ h1
  exact ⟨World.cell?_of_block (w := wr) e, World.frozen?_of_block (w := wr) e⟩

theorem row_two {w : World} {lo hi : Nat} {a1 a2 : Option Addr} {l1 l2 : Nat} {Z1 Z2 : Nat → Int} (h1 : IRow w lo hi a1 l1 Z1) (h2 : IRow w lo hi a2 l2 Z2) (s : Nat) : IRow w lo hi (two a1 a2 s) (two l1 l2 s) (two Z1 Z2 s) := by
  unfold two; split
  · exact h1
  · exact h2

theorem rng_two {n l1 l2 : Nat} {Z1 Z2 : Nat → Int} (h1 : ∀ i, i < l1 → 0 ≤ Z1 i ∧ Z1 i < n) (h2 : ∀ i, i < l2 → 0 ≤ Z2 i ∧ Z2 i < n) (s : Nat) : ∀ i, i < two l1 l2 s → 0 ≤ two Z1 Z2 s i ∧ two Z1 Z2 s i < n := by
  unfold two; split
  · exact h1
  · exact h2

set_option maxRecDepth 100000 in
set_option maxHeartbeats 1000000 in
theorem meet_any (R A : Nat) (ai a1 a2 a3 : Option Addr) (n ca l1 c1 l2 c2 l3 c3 : Nat) (d : Option Addr) (cd lo hi : Nat) (Aa : Nat → Option Addr) (L C : Nat → Nat) (Z : Nat → Nat → Int) (Z1 Z2 Z3 : Nat → Int) (f : Nat → Value) (w : World)
    (dom : Dom n L Z l1 Z1 l2 Z2 l3 Z3) (hn : n ≤ 4096) (h1 : l1 ≤ 65536) (h2 : l2 ≤ 65536) (h3 : l3 ≤ 65537) (hL : ∀ v, v < n → L v ≤ 131072) (hhi : hi ≤ R) (hR : R < w.heap.size) (hA : A < w.heap.size) (hAR : A ≠ R)
    (hf : w.rowIs R 66 44 f) (f1 : f 1 = .pointer (some ⟨A, 0, none⟩)) (f5 : f 5 = .slice d n cd) (f14 : f 14 = .int .i64 0) (f15 : ∀ s, s < 4 → f (15 + s) = .slice none 0 0)
    (hadj : w.cell? ⟨A, 0, none⟩ = some (.slice ai n ca)) (hr : IRows w lo hi ai n Aa L C Z) (r1 : IRow w lo hi a1 l1 Z1) (r2 : IRow w lo hi a2 l2 Z2) (r3 : IRow w lo hi a3 l3 Z3) :
    Calls Try.prog 36 #[.pointer (some ⟨R, 0, none⟩), .slice a1 l1 c1, .slice a2 l2 c2, .slice a3 l3 c3] w fun e w' => MeetRet L Z (half l1 l2 Z1 Z2) (blk l1 l2 l3 Z1 Z2 Z3) e ∧ w.grownBy w' (some R) := by
  have hmk := run_make_row' (P := Try.prog) 26 3 (.int .i64 0) 8 Try.underlying26 Try.info3 rfl .i64 .i64 n (by omega) (by omega)
  have hq := fun w => Lib.run_eql_slice_nil (P := Try.prog) w 26 3 none 0 0 0 0 Try.underlying26
  have x5 : w.cell? ⟨R, 5, none⟩ = some (.slice d n cd) := by rw [hf.cell (by omega), f5]
  have x14 : w.cell? ⟨R, 14, none⟩ = some (.int .i64 0) := by rw [hf.cell (by omega), f14]
  have x15 : w.cell? ⟨R, 15, none⟩ = some (.slice none 0 0) := by rw [hf.cell (by omega)]; exact congrArg some (f15 0 (by omega))
  have x16 : w.cell? ⟨R, 16, none⟩ = some (.slice none 0 0) := by rw [hf.cell (by omega)]; exact congrArg some (f15 1 (by omega))
  have y14 := hf.frozen 14
  have y15 := hf.frozen 15
  have y16 := hf.frozen 16
  have hbd := build59 (some ⟨w.heap.size, 0, none⟩) (some ⟨w.heap.size + 1, 0, none⟩) n n n n
  have hbd2 := build59 (some ⟨w.heap.size + 1, 0, none⟩) (some ⟨w.heap.size, 0, none⟩) n n n n
  have n1 : ¬ (w.heap.size = R) := by omega
  have n2 : ¬ (R = w.heap.size) := by omega
  have n3 : ¬ (w.heap.size + 1 = R) := by omega
  have n4 : ¬ (R = w.heap.size + 1) := by omega
  have HF := hidden hf
  have F1 := hidden f1
  have F14 := hidden f14
  have F15 := hidden f15
  have HR := hidden hr
  have HL := hidden hL
  have R1 := hidden r1
  have R2 := hidden r2
  have R3 := hidden r3
  clear hf f1 f5 f14 f15 hr hL r1 r2 r3
  go_enter Try.func36, Try.ntmps36
  go_upto_if 30 with fail
  go_cut [] (fun wc => ∃ T, M0 w n R A T wc)
  case first =>
    go_wp2
    go_region_held3 (fun w' => w'.cell? ⟨R, 5, none⟩ = some (.slice d n cd)) (first | (go_keep; done) | exact (keep5 _ _ _ _ _ _ hR).trans x5) (fail)
    all_goals go_wp2
    · go_meet
      case rel => exact ⟨fun s => if s = 0 then w.heap.size else w.heap.size + 1, M0.mk' HF.out F1.out F14.out F15.out _ (.inl ⟨rfl, rfl⟩)⟩
    · go_meet
      case rel => exact ⟨fun s => if s = 0 then w.heap.size + 1 else w.heap.size, M0.mk' HF.out F1.out F14.out F15.out _ (.inr ⟨rfl, rfl⟩)⟩
  case rest =>
    obtain ⟨T, hM⟩ := hcut
    have z14 : wc.cell? ⟨R, 14, none⟩ = some (.int .i64 0) := by obtain ⟨f, hf, _, f14, _⟩ := hM.red; rw [hf.cell (by omega), f14]
    have z14' : wc.frozen? ⟨R, 14, none⟩ = false := by obtain ⟨f, hf, _⟩ := hM.red; exact hf.frozen 14
    have zR : R < wc.heap.size := by rw [hM.size]; omega
    have HM := hidden (hM.start hR)
    have hsz := hM.size
    clear hM x5 x14 x15 x16 y14 y15 y16 hbd hbd2 n1 n2 n3 n4 HF F1 F14 F15 hmk hq
    have hb1 := build59 a1 a2 l1 c1 l2 c2
    have hb2 := build59 a2 a1 l2 c2 l1 c1
    have ix1 := index_two a1 a2 l1 c1 l2 c2
    have ix2 := index_two a2 a1 l2 c2 l1 c1
    go_upto_block 0 with fail
    go_quiet (fail)
    go_upto_block 0 with fail
    go_cut [] (fun wq => L1at w n R A T Z1 Z2 Z3 l1 l2 l3 2 wq)
    case first =>
      go_wp2
      go_loopw [68] (fun i wr => ∃ s : Nat, s ≤ 2 ∧ i = .int .i64 s ∧ L1at w n R A T Z1 Z2 Z3 l1 l2 l3 s wr) (fun i _ => 2 - (intOf i).toNat)
      case atStart => exact ⟨0, by omega, rfl, _, _, _, (HM.out).drewN _, fun s' h => absurd h (Nat.not_lt_zero _), fun s' _ _ => ⟨fun _ => rfl, rfl, rfl⟩⟩
      case round =>
        obtain ⟨s, hs, rfl, hat⟩ := hrel
        by_cases hs2 : s < 2
        · have LIN := hidden (hat.enter hs2)
          obtain ⟨ah, i1, rh⟩ : ∃ ah, (∀ w, (Instr.index 59 (.agg #[.slice a1 l1 c1, .slice a2 l2 c2]) (.int .i64 s)).run Try.prog w = .ok (.slice ah (two l1 l2 s) (two c1 c2 s)) w) ∧ IRow w lo hi ah (two l1 l2 s) (two Z1 Z2 s) := ⟨_, ix1 s hs2, row_two R1.out R2.out s⟩
          obtain ⟨ao, i2, ro⟩ : ∃ ao, (∀ w, (Instr.index 59 (.agg #[.slice a2 l2 c2, .slice a1 l1 c1]) (.int .i64 s)).run Try.prog w = .ok (.slice ao (two l2 l1 s) (two c2 c1 s)) w) ∧ IRow w lo hi ao (two l2 l1 s) (two Z2 Z1 s) := ⟨_, ix2 s hs2, row_two R2.out R1.out s⟩
          have RH := hidden rh
          have RO := hidden ro
          have RGH := hidden (rng_two dom.one dom.other s)
          have RGO := hidden (rng_two dom.other dom.one s)
          have RG3 := hidden dom.crashed
          have lh1 : two l1 l2 s ≤ 65536 := by unfold two; split <;> assumption
          have lo1 : two l2 l1 s ≤ 65536 := by unfold two; split <;> assumption
          clear rh ro
          have s0 : (0 : Int) ≤ (s : Int) := by omega
          have s1 : (s : Int) < 2 := by omega
          clear hat ix1 ix2 HM
          obtain ⟨wo, rfl⟩ : ∃ wo : World, wo = wr := ⟨_, rfl⟩
          go_wp2
          go_loopw [74] (fun i wi => ∃ k : Nat, k ≤ l3 ∧ i = .int .i64 k ∧ L1in w n R A T Z1 Z2 Z3 l1 l2 l3 s (Pk Z3 0) (Pk Z3 k) wi) (fun i _ => l3 - (intOf i).toNat)
          case atStart => exact ⟨0, Nat.zero_le _, rfl, LIN.out⟩
          case round =>
            obtain ⟨k, hk, rfl, hin⟩ := hrel
            obtain ⟨c15, cT, fT⟩ := hin.reads hs2
            have LI := hidden hin
            by_cases hlt : k < l3
            · rcases hin.row hhi R3.out with h0 | ⟨b, o, rfl, _, _, hc⟩
              · omega
              · have cv := hc k hlt
                have hrg := RG3.out k hlt
                obtain ⟨v, hv⟩ := Int.eq_ofNat_of_zero_le hrg.1
                have hvn : v < n := by omega
                have hvk := hidden hv
                rw [hv] at cv
                obtain ⟨old, xv⟩ := cT v hvn
                have fv := fT v
                clear hin cT fT hc hv LIN hrg
                go_wp2
                go_roundw
                case rel => exact ⟨k + 1, by omega, by go_num, (LI.out.mark hs2 v 3 (fun t h => h.three (fun u => Pk.zero) v)).congr (fun u => Iff.rfl) (fun u => Pk.succ hvk.out)⟩
                case measure => simp [intOf]; omega
            · have e : l3 = k := by omega
              subst e
              clear hin cT fT LIN

              have LIN : Hid (L1in w n R A T Z1 Z2 Z3 l1 l2 l3 s (Pk Z3 0) (fun u => Pk (two Z2 Z1 s) 0 u ∨ Pk Z3 l3 u) wr) := LI.out.congr (fun u => Iff.rfl) (fun u => ⟨fun h => h.resolve_left Pk.zero, .inr⟩)
              clear LI c15
              go_wp2
              go_loopw [94] (fun i wi => ∃ k : Nat, k ≤ two l2 l1 s ∧ i = .int .i64 k ∧ L1in w n R A T Z1 Z2 Z3 l1 l2 l3 s (Pk Z3 0) (fun u => Pk (two Z2 Z1 s) k u ∨ Pk Z3 l3 u) wi) (fun i _ => two l2 l1 s - (intOf i).toNat)
              case atStart => exact ⟨0, Nat.zero_le _, rfl, LIN.out⟩
              case round =>
                obtain ⟨k, hk, rfl, hin⟩ := hrel
                obtain ⟨c15, cT, fT⟩ := hin.reads hs2
                have LI := hidden hin
                by_cases hlt : k < two l2 l1 s
                · rcases hin.row hhi RO.out with h0 | ⟨b, o, rfl, _, _, hc⟩
                  · omega
                  · have cv := hc k hlt
                    have hrg := RGO.out k hlt
                    obtain ⟨v, hv⟩ := Int.eq_ofNat_of_zero_le hrg.1
                    have hvn : v < n := by omega
                    have hvk := hidden hv
                    rw [hv] at cv
                    obtain ⟨old, xv⟩ := cT v hvn
                    have fv := fT v
                    clear hin cT fT hc hv LIN hrg
                    go_wp2
                    go_roundw
                    case rel => exact ⟨k + 1, by omega, by go_num, (LI.out.mark hs2 v 3 (fun t h => h.three (fun u => Pk.zero) v)).congr (fun u => Iff.rfl) (fun u => by rw [Pk.succ hvk.out, or_assoc])⟩
                    case measure => simp [intOf]; omega
                · have e : two l2 l1 s = k := by omega
                  subst e
                  clear hin cT fT LIN

                  have LIN : Hid (L1in w n R A T Z1 Z2 Z3 l1 l2 l3 s (Pk (two Z1 Z2 s) 0) (fun u => Pk (two Z2 Z1 s) (two l2 l1 s) u ∨ Pk Z3 l3 u) wr) := LI.out.congr (fun u => ⟨fun h => absurd h Pk.zero, fun h => absurd h Pk.zero⟩) (fun u => Iff.rfl)
                  clear LI c15
                  go_wp2
                  go_loopw [110] (fun i wi => ∃ k : Nat, k ≤ two l1 l2 s ∧ i = .int .i64 k ∧ L1in w n R A T Z1 Z2 Z3 l1 l2 l3 s (Pk (two Z1 Z2 s) k) (fun u => Pk (two Z2 Z1 s) (two l2 l1 s) u ∨ Pk Z3 l3 u) wi) (fun i _ => two l1 l2 s - (intOf i).toNat)
                  case atStart => exact ⟨0, Nat.zero_le _, rfl, LIN.out⟩
                  case round =>
                    obtain ⟨k, hk, rfl, hin⟩ := hrel
                    obtain ⟨c15, cT, fT⟩ := hin.reads hs2
                    have LI := hidden hin
                    by_cases hlt : k < two l1 l2 s
                    · rcases hin.row hhi RH.out with h0 | ⟨b, o, rfl, _, _, hc⟩
                      · omega
                      · have cv := hc k hlt
                        have hrg := RGH.out k hlt
                        obtain ⟨v, hv⟩ := Int.eq_ofNat_of_zero_le hrg.1
                        have hvn : v < n := by omega
                        have hvk := hidden hv
                        rw [hv] at cv
                        obtain ⟨old, xv⟩ := cT v hvn
                        have fv := fT v
                        clear hin cT fT hc hv LIN hrg
                        go_wp2
                        go_roundw
                        case rel => exact ⟨k + 1, by omega, by go_num, (LI.out.mark hs2 v 2 (fun t h => h.two v)).congr (fun u => Pk.succ hvk.out) (fun u => Iff.rfl)⟩
                        case measure => simp [intOf]; omega
                    · have e : two l1 l2 s = k := by omega
                      subst e
                      clear hin cT fT LIN

                      obtain ⟨y17, yQ, yF, ySz⟩ := LI.out.reads2 hs2
                      obtain ⟨i3, hi3, hz0, hz1, hz2⟩ := info_parts Try.info3
                      by_cases hl0 : two l1 l2 s = 0
                      · have LV := hidden (LI.out.leave hs2 (w1 := wr) (v' := .slice none 0 0) (World.grownBy.refl wr none) ⟨by rw [hl0]; rfl, .inl ⟨rfl, hl0⟩⟩ (.inr rfl))
                        clear LI RH RO RGH RGO RG3
                        go_wp2_with (at_builtin; refine wpList_append_empty _ (by rfl) (.tmp 131) (.tmp 132) (by rfl) (by rfl) ah (two c1 c2 s) (by first | rfl | (simp [Act.eval, hl0])) ?_)
                        go_roundw
                        case rel => exact ⟨s + 1, by omega, by go_num, LV.out⟩
                        case measure => simp [intOf]; omega
                      · rcases LI.out.row hhi RH.out with h0 | ⟨b, o, rfl, _, _, hc⟩
                        · omega
                        · have hnews := news_of RGH.out hc
                          have HN := hidden hnews
                          clear hc hnews
                          go_wp2_with (at_builtin; refine wpList_append_lies _ (by rfl) (.tmp 131) (.tmp 132) 26 (by rfl) (w.heap.size + 3) 3 i3 (.int .i64 0) 1 8 Try.underlying26 hi3 hz0 hz1 hz2 rfl (by omega) (.slice none 0 0) 0 [] (by rfl) ⟨rfl, .inl ⟨rfl, rfl⟩⟩ ⟨b, o, none⟩ (two l1 l2 s) (two c1 c2 s) (ints (nodes (two Z1 Z2 s) (two l1 l2 s))) (by rfl) (by simp [ints, nodes]) HN.out (ints_one _) (by omega) (by unfold maxLen; omega) (by omega) (by omega) wr.heap.size rfl ?_; intro g cap w2 hown hgrow hat hlt; have yQ2 := (World.cell?_of_block (w := wr) (w' := w2) (a := ⟨w.heap.size + 2, s, none⟩) (hgrow.block _ (by show w.heap.size + 2 < _; omega) (fun e => by cases e))).trans yQ; have yF2 := (World.frozen?_of_block (w := wr) (w' := w2) (a := ⟨w.heap.size + 2, s, none⟩) (hgrow.block _ (by show w.heap.size + 2 < _; omega) (fun e => by cases e))).trans yF; have LV := hidden (LI.out.leave hs2 hgrow (ho_zero hown) (.inl (ho_at hat))); clear hown hgrow hat hlt)
                          go_roundw
                          case rel => exact ⟨s + 1, by omega, by go_num, LV.out⟩
                          case measure => simp [intOf]; omega
        · have e : s = 2 := by omega
          subst e
          go_wp2
          go_meet
          case rel => exact hat
    case rest =>
      obtain ⟨t0, qv0, q0, hms, hbg, _⟩ := hcut
      have INV := begun_inv dom hbg
      have hbuild := build73
      have HIN := hidden (fun v u (hv : v < n) (hi : Mt.In L Z v u) => in_lt dom hv hi)
      have MS0 := hidden hms
      have I0 := hidden INV
      clear hms hbg INV HM ix1 ix2 hb1 hb2 R1 R2 R3 z14 z14' zR hsz
      go_wp2
      go_loopg [20] (two l1 l2 0 + two l1 l2 1 + 2 * n) (fun gk hp wr => L5at w n R A T L Z (half l1 l2 Z1 Z2) (blk l1 l2 l3 Z1 Z2 Z3) (two l1 l2) gk hp wr)
      case atStart => exact L5at.start MS0.out I0.out
      case round =>
        obtain ⟨H, t, qv, q, h, rfl, mh, hgk⟩ := hrel
        obtain ⟨qa, qc, hqv⟩ := mh.forms
        have t0 := inv_total mh.inv (s := 0) (by omega)
        have t1 := inv_total mh.inv (s := 1) (by omega)
        have b0 : two l1 l2 0 = l1 := rfl
        have b1 : two l1 l2 1 = l2 := rfl
        rw [b0] at t0
        rw [b1] at t1
        have cH0 := mh.heads.cell (i := 0) (by omega)
        have cH1 := mh.heads.cell (i := 1) (by omega)
        have cQ0 : wr.cell? ⟨w.heap.size + 2, 0, none⟩ = some (.slice (qa 0) (q 0).length (qc 0)) := by rw [mh.ms.que.cell (by omega), hqv 0 (by omega)]
        have cQ1 : wr.cell? ⟨w.heap.size + 2, 1, none⟩ = some (.slice (qa 1) (q 1).length (qc 1)) := by rw [mh.ms.que.cell (by omega), hqv 1 (by omega)]
        have MHH := hidden mh
        have HQV := hidden hqv
        have HGK := hidden hgk
        clear mh hqv hgk MS0 I0 b0 b1
        by_cases hend : h 0 = (q 0).length ∧ h 1 = (q 1).length
        · skip
          obtain ⟨e0, e1⟩ := hend
          have hnone := MHH.out.inv.none HIN.out (fun s hs => by
            have : s = 0 ∨ s = 1 := by omega
            rcases this with rfl | rfl
            · exact e0
            · exact e1)
          have HNO := hidden hnone
          have m17 := MHH.out.ms.meeting (s := 0) (by omega)
          have m18 := MHH.out.ms.meeting (s := 1) (by omega)
          have g17 : wr.frozen? ⟨R, 17, none⟩ = false := by obtain ⟨f, hf, _⟩ := MHH.out.ms.red; exact hf.frozen 17
          have g18 : wr.frozen? ⟨R, 18, none⟩ = false := by obtain ⟨f, hf, _⟩ := MHH.out.ms.red; exact hf.frozen 18
          have d0 : ¬ ((h 0 : Int) < ((q 0).length : Int)) := by omega
          have d1 : ¬ ((h 1 : Int) < ((q 1).length : Int)) := by omega
          clear e0 e1 hnone
          go_wp2
          go_ret
          exact ⟨⟨false, rfl, ⟨fun h => (by cases h), fun h => absurd h HNO.out⟩⟩, MHH.out.leave _ _⟩
        · go_upto_region 27 with fail
          go_cut [150] (fun b wx => b = .bool true ∧ wx = wr)
          case first =>
            by_cases d0 : (h 0 : Int) < ((q 0).length : Int)
            · go_wp2
              go_meet
              case rel => exact ⟨by first | rfl | simp [d0], rfl⟩
            · have d1 : (h 1 : Int) < ((q 1).length : Int) := by omega
              go_wp2
              go_meet
              case rel => exact ⟨by first | rfl | simp [d1], rfl⟩
          case rest =>
            obtain ⟨rfl, rfl⟩ := hcut
            have L6 : Hid (L6at w n R A T L Z (half l1 l2 Z1 Z2) (blk l1 l2 l3 Z1 Z2 Z3) (two l1 l2) H (h 0 + h 1) 0 wc) := ⟨t, qv, q, h, MHH.out, Nat.le_refl _, .inr (by
              by_cases d0 : h 0 < (q 0).length
              · exact ⟨0, by omega, by omega, d0⟩
              · exact ⟨1, by omega, by omega, by omega⟩)⟩
            generalize hbase : h 0 + h 1 = base at L6
            rw [hbase] at HGK
            clear MHH HQV cH0 cH1 cQ0 cQ1 t0 t1 hend hbase
            go_wp2
            go_loopw [151] (fun i w6 => ∃ s : Nat, s ≤ 2 ∧ i = .int .i64 s ∧ L6at w n R A T L Z (half l1 l2 Z1 Z2) (blk l1 l2 l3 Z1 Z2 Z3) (two l1 l2) H base s w6) (fun i _ => 2 - (intOf i).toNat)
            case atStart => exact ⟨0, by omega, rfl, L6.out⟩
            case round =>
              obtain ⟨s, hs, rfl, hl6⟩ := hrel
              clear L6
              by_cases hs2 : s < 2
              · obtain ⟨t, qv, q, h, mh, hb, hp⟩ := hl6
                obtain ⟨qs, qcs, hqs⟩ := own_form (mh.ms.own s hs2)
                have tl := inv_total mh.inv hs2
                have tb : two l1 l2 s ≤ 65536 := by unfold two; split <;> assumption
                have cH := mh.heads.cell (i := s) hs2
                have fH := mh.heads.frozen s
                have cQ : wr.cell? ⟨w.heap.size + 2, s, none⟩ = some (.slice qs (q s).length qcs) := by rw [mh.ms.que.cell hs2, hqs]
                have s0 : (0 : Int) ≤ (s : Int) := by omega
                have s1 : (s : Int) < 2 := by omega
                by_cases he : h s = (q s).length
                · skip
                  have SK := hidden (L6at.skip mh hb hp he)
                  have eb : ((h s : Int) == ((q s).length : Int)) = true := beq_iff_eq.2 (by omega)
                  clear mh hqs hp he tl
                  go_wp2
                  go_quiet (fail)
                  go_wp2
                  go_roundw
                  case rel => exact ⟨s + 1, by omega, by go_num, SK.out.drewN _⟩
                  case measure => simp [intOf]; omega
                · have hlt : h s < (q s).length := by omega
                  obtain ⟨v, hv⟩ : ∃ v, (q s)[h s]? = some v := ⟨_, List.getElem?_eq_getElem hlt⟩
                  have hown := mh.ms.own s hs2
                  rw [hqs] at hown
                  obtain ⟨g, rfl, cg⟩ := own_cell hown hv
                  have eb : ((h s : Int) == ((q s).length : Int)) = false := beq_eq_false_iff_ne.2 (by omega)
                  have hlt' : (h s : Int) < ((q s).length : Int) := by omega
                  have hvn := (mh.reached hs2 hv).1
                  have ST := hidden (fun k => L7at.start (base := base) mh hs2 hv hb k)
                  have hsb : (h s : Int) ≤ 200000 := by omega
                  clear mh hqs hown hp he hv hb tl
                  go_wp2
                  go_quiet (fail)
                  go_wp2
                  go_quiet (fail)
                  go_upto_region 33 with fail
                  go_cut [] (fun wx => L7at w n R A T L Z (half l1 l2 Z1 Z2) (blk l1 l2 l3 Z1 Z2 Z3) (two l1 l2) H base s v 0 wx)
                  case first =>
                    go_wp2
                    go_meet
                    case rel =>
                      rw [show ((h s : Int) + 1) = ((h s + 1 : Nat) : Int) by omega]
                      exact ST.out _
                  case rest =>
                    have L7 := hidden hcut
                    obtain ⟨t7, qv7, q7, h7, mh7, _⟩ := hcut
                    rcases mh7.ms.rows hhi HR.out with h0 | ⟨ab, ao, rfl, _, _, hrows⟩
                    · omega
                    · obtain ⟨av, cv, crow, rrow⟩ : ∃ av cv, wc.cell? ⟨ab, ao + v, none⟩ = some (.slice av (L v) cv) ∧ IRow w lo hi av (L v) (Z v) := by
                        rcases HR.out with h0 | ⟨ab', ao', e, _, _, hrows'⟩
                        · omega
                        · exact ⟨_, _, (hrows v hvn).1, (hrows' v hvn).2.2.2⟩
                      have RR := hidden rrow
                      have cadj := mh7.ms.adj
                      have cA : wc.cell? ⟨A, 0, none⟩ = some (.slice (some ⟨ab, ao, none⟩) n ca) := by rw [mh7.ms.old hA hAR]; exact hadj
                      have hvn' : (v : Int) < (n : Int) := by omega
                      have hLv := HL.out v hvn
                      have hrg := dom.rows v hvn
                      have HRG := hidden hrg
                      clear hrg rrow hrows mh7 ST cH fH cQ cg
                      go_wp2
                      go_loopw [186] (fun i w7 => ∃ j : Nat, j ≤ L v ∧ i = .int .i64 j ∧ L7at w n R A T L Z (half l1 l2 Z1 Z2) (blk l1 l2 l3 Z1 Z2 Z3) (two l1 l2) H base s v j w7) (fun i _ => L v - (intOf i).toNat)
                      case atStart => exact ⟨0, Nat.zero_le _, rfl, L7.out⟩
                      case round =>
                        obtain ⟨j, hj, rfl, hl7⟩ := hrel
                        clear L7 crow cadj cA
                        by_cases hjl : j < L v
                        · obtain ⟨t, qv, q, h, mh, hv, hb, hz⟩ := hl7
                          rcases mh.ms.row hhi RR.out with h0 | ⟨rb, ro, rfl, _, _, hcells⟩
                          · omega
                          · have cu := hcells j hjl
                            have hr2 := HRG.out j hjl
                            obtain ⟨u, hu⟩ := Int.eq_ofNat_of_zero_le hr2.1
                            rw [hu] at cu
                            have hun : u < n := by omega
                            have hun' : (u : Int) < (n : Int) := by omega
                            have cT := mh.ms.towards hs2
                            have cTu := (mh.ms.tow s hs2).cell hun
                            have HU := hidden hu
                            clear hu hr2 hcells
                            have hval := mh.inv.val s hs2 u hun
                            by_cases h2 : t s u = 0
                            · have c2 : ¬ ((2 : Int) ≤ t s u) := by omega
                              have e1 : (1 : Int) - (s : Int) = ((1 - s : Nat) : Int) := by omega
                              have s2 : (0 : Int) ≤ ((1 - s : Nat) : Int) := by omega
                              have s3 : ((1 - s : Nat) : Int) < 2 := by omega
                              have cO := mh.ms.towards (s := 1 - s) (by omega)
                              have cOu := (mh.ms.tow (1 - s) (by omega)).cell hun
                              by_cases hx : t (1 - s) u = 2
                              · skip
                                have hxb : (t (1 - s) u == 2) = true := beq_iff_eq.2 hx
                                have FO := hidden (mh.inv.found hs2 hun (mh.reached hs2 hv).2 ⟨j, hjl, HU.out⟩ h2 hx)
                                obtain ⟨qa, qc, hqv⟩ := mh.forms
                                have cQ0 : wr.cell? ⟨w.heap.size + 2, 0, none⟩ = some (.slice (qa 0) (q 0).length (qc 0)) := by rw [mh.ms.que.cell (by omega), hqv 0 (by omega)]
                                have cQ1 : wr.cell? ⟨w.heap.size + 2, 1, none⟩ = some (.slice (qa 1) (q 1).length (qc 1)) := by rw [mh.ms.que.cell (by omega), hqv 1 (by omega)]
                                have m17 := mh.ms.meeting (s := 0) (by omega)
                                have m18 := mh.ms.meeting (s := 1) (by omega)
                                have g17 : wr.frozen? ⟨R, 17, none⟩ = false := by obtain ⟨f, hf, _⟩ := mh.ms.red; exact hf.frozen 17
                                have g18 : wr.frozen? ⟨R, 18, none⟩ = false := by obtain ⟨f, hf, _⟩ := mh.ms.red; exact hf.frozen 18
                                have LV := hidden (fun x y => mh.leave x y)
                                clear mh hv hb hz hx hqv hval h2
                                go_wp2
                                go_ret
                                exact ⟨⟨true, rfl, ⟨fun _ => FO.out, fun _ => rfl⟩⟩, LV.out _ _⟩
                              · have hxb : (t (1 - s) u == 2) = false := beq_eq_false_iff_ne.2 hx
                                have fTu := (mh.ms.tow s hs2).frozen u
                                obtain ⟨qs, qcs, hqs⟩ := own_form (mh.ms.own s hs2)
                                have cQ : wr.cell? ⟨w.heap.size + 2, s, none⟩ = some (.slice qs (q s).length qcs) := by rw [mh.ms.que.cell hs2, hqs]
                                have fQ := mh.ms.que.frozen s
                                have tl := inv_total mh.inv hs2
                                have tbb : (q s).length ≤ 100000 := by omega
                                have hown := mh.ownAt hs2 hs2 u (.int .i64 2) (.cells #[.int .i64 (u : Int)] 3)
                                rw [hqs] at hown
                                have HOWN := hidden hown
                                have hsz := mh.ms.size
                                have PU := hidden (fun w1 v' hg ho hat => L7at.push (base := base) mh hv hb hz hjl HU.out hun hs2 h2 hx (w1 := w1) (v' := v') (.cells #[.int .i64 (u : Int)] 3) hg ho hat)
                                rw [hqs] at PU
                                have hTQ : ¬ (T s = w.heap.size + 2) := by have := mh.ms.tlo s hs2; omega
                                have hQT : ¬ (w.heap.size + 2 = T s) := by omega
                                have hTlt : T s < wr.heap.size := by have := mh.ms.tlo s hs2; omega
                                have hQlt : w.heap.size + 2 < wr.heap.size := by omega
                                have NO : Hid (∀ b, b < w.heap.size + 3 → some b ≠ (Value.slice qs (q s).length qcs).ownBlock) := by
                                  intro b hb e
                                  have := (own_lt HOWN.out e.symm).1
                                  omega
                                obtain ⟨i3, hi3, hz0, hz1, hz2⟩ := info_parts Try.info3
                                clear mh hv hb hz hx hown hqs hval tl
                                have HN := hidden (news_one wr ⟨T s, u, none⟩ (.int .i64 2) (.int .i64 (u : Int)))
                                have FC := hidden (far_cell (wr := wr) (a := ⟨T s, u, none⟩) (p := ⟨w.heap.size + 2, s, none⟩) (c := .int .i64 2) (ob := .cells #[.int .i64 (u : Int)] 3) hQT hQlt)
                                go_upto_region 42 with fail
                                go_wp2_with (at_builtin; refine wpList_append_lies _ (by rfl) (.tmp 229) (.tmp 231) 26 (by rfl) (w.heap.size + 3) 3 i3 (.int .i64 0) 1 8 Try.underlying26 hi3 hz0 hz1 hz2 rfl (by omega) (.slice qs (q s).length qcs) (q s).length (ints (q s)) (by rfl) HOWN.out ⟨wr.heap.size, 0, none⟩ 1 1 [.int .i64 (u : Int)] (by rfl) rfl HN.out (by intro x hx; simp at hx; rw [hx]; rfl) (by omega) (by unfold maxLen; omega) (by omega) (by simp; omega) (wr.heap.size + 1) (by simp) ?_; intro g2 cap2 w2 hown2 hgrow hat hlt2; have yQ2 := (World.cell?_of_block (w' := w2) (a := ⟨w.heap.size + 2, s, none⟩) (hgrow.block (w.heap.size + 2) (by simp; omega) (NO.out _ (by omega)))).trans (FC.out.1.trans cQ); have yF2 := (World.frozen?_of_block (w' := w2) (a := ⟨w.heap.size + 2, s, none⟩) (hgrow.block (w.heap.size + 2) (by simp; omega) (NO.out _ (by omega)))).trans (FC.out.2.trans fQ); have PP := hidden (PU.out w2 _ hgrow hown2 (hat_conv hat)); clear hown2 hgrow hat hlt2)
                                go_roundw
                                case rel => exact ⟨j + 1, by omega, by go_num, PP.out⟩
                                case measure => simp [intOf]; omega
                            · skip
                              have c2 : (2 : Int) ≤ t s u := by omega
                              have PA := hidden (L7at.pass mh hv hb hz HU.out h2)
                              clear mh hv hb hz h2 hval
                              go_wp2
                              go_roundw
                              case rel => exact ⟨j + 1, by omega, by go_num, PA.out⟩
                              case measure => simp [intOf]; omega
                        · have e : L v = j := by omega
                          subst e
                          have D6 := hidden (hl7.done hs2)
                          clear hl7
                          go_wp2
                          go_roundw
                          case rel => exact ⟨s + 1, by omega, by go_num, D6.out⟩
                          case measure => simp [intOf]; omega
              · skip
                have e : 2 = s := by omega
                subst e
                obtain ⟨hm, k0, k1, gk', hlt, hL5⟩ := hl6.done HGK.out
                have HL5 := hidden hL5
                clear hl6 hL5
                go_wp2
                go_roundg gk'
                case measure => exact hlt
                case rel => exact HL5.out

end Go.Proofs.Qxb6604796a
