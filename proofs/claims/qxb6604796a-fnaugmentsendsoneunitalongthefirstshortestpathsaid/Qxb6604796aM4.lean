/-
  THE MEMORY OF 'meet' while it searches.
-/
import Derived.Test.Qxb6604796aM3
namespace Go.Proofs.Qxb6604796a
open Go.RowKit Mt

/-- What 'meet' answers. -/
def Meets (L : Nat → Nat) (Z : Nat → Nat → Int) (half blk : Nat → Nat → Prop) : Prop := ∃ u, Mt.Reach L Z (half 0) (blk 0) u ∧ Mt.Reach L Z (half 1) (blk 1) u
def MeetRet (L : Nat → Nat) (Z : Nat → Nat → Int) (half blk : Nat → Nat → Prop) (e : Ending) : Prop := ∃ r, e = .returned (.bool r) ∧ (r = true ↔ Meets L Z half blk)

/-- The state of the searches, and where the heads lie. -/
structure MH (w : World) (n R A : Nat) (T : Nat → Nat) (L : Nat → Nat) (Z : Nat → Nat → Int) (half blk : Nat → Nat → Prop) (l : Nat → Nat) (H : Nat) (t : Nat → Nat → Int) (qv : Nat → Value) (q : Nat → List Nat) (h hm : Nat → Nat) (wr : World) : Prop where
  ms : MS w n R A T t qv q wr
  inv : Inv n L Z half blk l t q h
  heads : wr.rowIs H 73 2 (fun i => .int .i64 (hm i))
  hlo : w.heap.size + 3 ≤ H
  hne : ∀ s, s < 2 → (qv s).ownBlock ≠ some H

theorem own_form {w : World} {base : Nat} {v : Value} {n : Nat} {xs : List Value} (h : w.ownsRow base 3 1 v n xs) : ∃ a c, v = .slice a n c := by
  rcases h.2 with ⟨rfl, rfl⟩ | ⟨g, cap, cur, rfl, _⟩
  · exact ⟨none, 0, rfl⟩
  · exact ⟨_, _, rfl⟩

theorem own_cell {w : World} {base : Nat} {a : Option Addr} {c n : Nat} {q : List Nat} (h : w.ownsRow base 3 1 (.slice a n c) n (ints q)) {i v : Nat} (hi : q[i]? = some v) : ∃ g, a = some ⟨g, 0, none⟩ ∧ w.cell? ⟨g, i, none⟩ = some (.int .i64 v) := by
  have hl := h.1
  have hlt := (List.getElem?_eq_some_iff.1 hi).1
  have hlen : q.length = n := by simpa [ints] using hl
  rcases h.2 with ⟨_, h0⟩ | ⟨g, cap, cur, hv, _, _⟩
  · omega
  · have e : a = some ⟨g, 0, none⟩ ∧ c = cap := by simpa using hv
    obtain ⟨rfl, rfl⟩ := e
    refine ⟨g, rfl, ?_⟩
    rw [World.ownsRow.cellAt h i (by omega)]
    exact ints_get hi

section
variable {w wr : World} {n R A : Nat} {T : Nat → Nat} {L : Nat → Nat} {Z : Nat → Nat → Int} {half blk : Nat → Nat → Prop} {l : Nat → Nat} {H : Nat} {t : Nat → Nat → Int} {qv : Nat → Value} {q : Nat → List Nat} {h hm : Nat → Nat}

theorem MH.forms (m : MH w n R A T L Z half blk l H t qv q h hm wr) : ∃ (qa : Nat → Option Addr) (qc : Nat → Nat), ∀ s, s < 2 → qv s = .slice (qa s) (q s).length (qc s) := by
  obtain ⟨a0, c0, e0⟩ := own_form (m.ms.own 0 (by omega))
  obtain ⟨a1, c1, e1⟩ := own_form (m.ms.own 1 (by omega))
  refine ⟨two a0 a1, two c0 c1, fun s hs => ?_⟩
  have : s = 0 ∨ s = 1 := by omega
  rcases this with rfl | rfl
  · exact e0
  · exact e1

/-- The heads' variable is new in every round. -/
theorem MH.renew (m : MH w n R A T L Z half blk l H t qv q h hm wr) : MH w n R A T L Z half blk l wr.heap.size t qv q h hm (wr.alloc (.cells #[.int .i64 (hm 0), .int .i64 (hm 1)] 73)) := by
  refine ⟨m.ms.alloc _, m.inv, ?_, by have := m.ms.size; omega, fun s hs e => ?_⟩
  · exact World.rowIs_alloc wr #[.int .i64 (hm 0), .int .i64 (hm 1)] 73 _ (by
      intro i hi
      have : i = 0 ∨ i = 1 := by have : i < 2 := hi; omega
      rcases this with rfl | rfl <;> rfl)
  · have := (own_lt (m.ms.own s hs) e).2
    omega

theorem MH.drewN (m : MH w n R A T L Z half blk l H t qv q h hm wr) (k : Nat) : MH w n R A T L Z half blk l H t qv q h hm (wr.drewN k) := by
  induction k with
  | zero => exact m
  | succ k ih => exact ⟨ih.ms.drew, ih.inv, ih.heads.drew, ih.hlo, ih.hne⟩

/-- A head goes on. -/
theorem MH.step (m : MH w n R A T L Z half blk l H t qv q h hm wr) {s : Nat} (_hs : s < 2) (c : Nat) : MH w n R A T L Z half blk l H t qv q h (upd hm s c) (wr.setCell ⟨H, s, none⟩ (.int .i64 c)) := by
  refine ⟨m.ms.other (grown_setCell wr ⟨H, s, none⟩ _) (fun X e => ?_), m.inv, (m.heads.set s _).congr fun i _ => ?_, m.hlo, m.hne⟩
  · have : X = H := by simpa using e.symm
    subst this
    exact ⟨m.hlo, m.hne⟩
  · unfold upd
    by_cases e : i = s <;> simp [e]

/-- A node is marked and queued. -/
theorem MH.push (m : MH w n R A T L Z half blk l H t qv q h hm wr) {s v u : Nat} {w1 : World} {v' : Value} (hs : s < 2) (hu : u < n) (hv : Mt.Reach L Z (half s) (blk s) v) (hin : In L Z v u) (h0 : t s u = 0) (hx : t (1 - s) u ≠ 2) (ob : Obj)
    (hg : ((wr.setCell ⟨T s, u, none⟩ (.int .i64 2)).alloc ob).grownBy w1 (qv s).ownBlock) (ho : w1.ownsRow (w.heap.size + 3) 3 1 v' ((q s).length + 1) (ints (q s) ++ [.int .i64 u]))
    (hat : (qv s).ownBlock = v'.ownBlock ∨ v'.ownBlock = some (wr.heap.size + 1)) :
    MH w n R A T L Z half blk l H (upd t s (fun i => if i = u then 2 else t s i)) (upd qv s v') (upd q s (q s ++ [u])) h hm (w1.setCell ⟨w.heap.size + 2, s, none⟩ v') := by
  have hH : H < wr.heap.size := m.heads.lt
  have hsz : ((wr.setCell ⟨T s, u, none⟩ (.int .i64 2)).alloc ob).heap.size = wr.heap.size + 1 := by simp [World.setCell]
  have m1 := (m.ms.mark hs u 2).alloc ob
  refine ⟨m1.push hs hg (q' := q s ++ [u]) (by rw [List.length_append, ints_append]; exact ho) ?_, m.inv.mark hs hu hv hin h0 hx, ?_, m.hlo, fun s' hs' e => ?_⟩
  · rw [hsz]
    rcases hat with hat | hat
    · exact .inl hat.symm
    · exact .inr (.inl hat)
  · have hT := m.ms.tlo s hs
    have hlo := m.hlo
    have r1 := ((m.heads.setOther (a := ⟨T s, u, none⟩) (by show H ≠ T s; omega) (.int .i64 2)).alloc ob)
    have r2 := r1.of_block (hg.block H (by rw [hsz]; omega) (fun e => m.hne s hs e.symm))
    exact r2.setOther (a := ⟨w.heap.size + 2, s, none⟩) (by show H ≠ w.heap.size + 2; omega) _
  · by_cases e2 : s' = s
    · subst e2
      rw [upd_same] at e
      rcases hat with hat | hat
      · rw [← hat] at e; exact m.hne _ hs e
      · rw [hat] at e; cases e; omega
    · rw [upd_other _ _ e2] at e
      exact m.hne _ hs' e

theorem MH.next (m : MH w n R A T L Z half blk l H t qv q h hm wr) {h' : Nat → Nat} (hi : Inv n L Z half blk l t q h') : MH w n R A T L Z half blk l H t qv q h' hm wr := ⟨m.ms, hi, m.heads, m.hlo, m.hne⟩

/-- The frame that 'meet' leaves. -/
theorem MH.leave (m : MH w n R A T L Z half blk l H t qv q h hm wr) (x y : Value) : w.grownBy ((wr.setCell ⟨R, 17, none⟩ x).setCell ⟨R, 18, none⟩ y) (some R) :=
  (m.ms.grown.trans (grown_setCell wr ⟨R, 17, none⟩ x)).trans (grown_setCell _ ⟨R, 18, none⟩ y)
end

end Go.Proofs.Qxb6604796a
