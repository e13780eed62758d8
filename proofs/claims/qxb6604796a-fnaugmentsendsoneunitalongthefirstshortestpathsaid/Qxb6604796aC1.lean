/-
  THE COPY OF A ROW BY 'make' AND 'copy'.
-/
import Derived.Test.Qxb6604796aB3
import Derived.Laws.CopyOwn
namespace Go.Proofs.Qxb6604796a
open Go.RowKit

theorem made_list (l : Nat) : madeCells #[.int .i64 0] l = (List.replicate l (Value.int .i64 0)).toArray := by
  have := toList_madeCells_one (.int .i64 0) l
  rw [← this]

theorem splice_all {α : Type} (L cs : List α) (h : cs.length = L.length) : splice L 0 cs = cs := by
  unfold splice
  simp [h]

theorem Try.size3 : (Try.prog.info? 3).map (·.size) = some 1 := by kernel_rfl

/-- 'copy' of a whole row into a row that 'make' has just laid. -/
theorem wpList_copy_ints {w0 : World} {ops : Array Oper} {rest : List Oper} {o : Oper} {a : Act} {Q : Exit → Act → World → Prop} (hgd : o.guard = none) (d s : Operand)
    (ho : o.op = .call { callee := .builtin .copy, args := #[d, s], argTypes := #[26, 26] }) (sp : Option Addr) (l c : Nat) (hd : a.eval d = .slice (some ⟨w0.heap.size, 0, none⟩) l l) (hs : a.eval s = .slice sp l c)
    (lo hi : Nat) (Z : Nat → Int) (hhi : hi ≤ w0.heap.size) (hr : IRow w0 lo hi sp l Z)
    (h : ∀ w', Below w0.heap.size w0 w' → w0.heap.size < w'.heap.size → IRow w' w0.heap.size (w0.heap.size + 1) (some ⟨w0.heap.size, 0, none⟩) l Z → wpList Try.prog ops Q rest (a.put o.dst (goInt l)) w') :
    wpList Try.prog ops Q (o :: rest) a (w0.alloc (.cells (madeCells #[.int .i64 0] l) 3)) := by
  have hlen : ((List.range l).map fun i => Value.int .i64 (Z i)).length = l := by simp
  refine wpList_copy_splice hgd d s 26 26 ho 3 Try.underlying26 Try.size3 (some ⟨w0.heap.size, 0, none⟩) sp l l l c hd hs w0.heap.size 0 (List.replicate l (.int .i64 0)) 3 ?_ ((List.range l).map fun i => .int .i64 (Z i)) ?_ ?_ ?_ ?_ w0.heap.size w0 ((Below.refl _ _).alloc (Nat.le_refl _) _) (Nat.le_refl _) ?_
  · rw [← made_list, Go.Deep.blk_alloc_new]
  · rw [hlen]; simp
  · intro hpos
    rw [hlen] at hpos
    refine ⟨rfl, ?_⟩
    rcases hr with h0 | ⟨b, off, rfl, _, hb, hc⟩
    · omega
    · refine ⟨_, rfl, fun j v hj => ?_⟩
      have hjl : j < l := by
        have := (List.getElem?_eq_some_iff.1 hj).1
        simpa using this
      have e : v = .int .i64 (Z j) := by simpa [hjl] using hj.symm
      rw [e, Go.WideShapes.add_plain, ((Below.refl w0.heap.size w0).alloc (Nat.le_refl _) _).cell (p := ⟨b, off + j, none⟩) (show b < w0.heap.size by omega)]
      exact hc j hjl
  · rw [hlen]; simp
  · intro v hv
    obtain ⟨i, _, rfl⟩ := List.mem_map.1 hv
    rfl
  · intro w' hg hb
    rw [hlen]
    have hg' := hg.out
    rw [splice_all _ _ (by simp)] at hg'
    have hlt : w0.heap.size < w'.heap.size := (Array.getElem?_eq_some_iff.1 hg').1
    refine h w' hb hlt (.inr ⟨w0.heap.size, 0, rfl, Nat.le_refl _, by omega, fun i hi => ?_⟩)
    unfold World.cell?
    simp [hg', hi]

end Go.Proofs.Qxb6604796a
