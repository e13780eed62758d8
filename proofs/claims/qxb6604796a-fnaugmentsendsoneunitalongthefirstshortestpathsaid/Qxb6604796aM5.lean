/-
  WALKS: ZZNewMeetReduction.
-/
import Derived.Test.Qxb6604796aM4
namespace Go.Proofs.Qxb6604796a
open Go.RowKit Mt

theorem build58 (a : Option Addr) (l c : Nat) (w : World) : (Instr.build 58 #[(0, .slice a l c)]).run Try.prog w = .ok (.agg #[.slice a l c, .slice none 0 0]) w := run_build w 58 _ _ (by kernel_rfl)

/-- The new reduction's cells. -/
def redCells (A D n : Nat) : Array Value := #[.pointer none, .pointer (some ⟨A, 0, none⟩), .slice none 0 0, .slice none 0 0, .int .i64 0, .slice (some ⟨D, 0, none⟩) n n, .slice none 0 0, .slice none 0 0, .slice none 0 0, .slice none 0 0, .slice none 0 0, .slice none 0 0, .slice none 0 0, .slice none 0 0, .int .i64 0,
  .slice none 0 0, .slice none 0 0, .slice none 0 0, .slice none 0 0, .slice none 0 0, .slice none 0 0, .slice none 0 0, .slice none 0 0, .slice none 0 0, .slice none 0 0, .slice none 0 0, .slice none 0 0, .slice none 0 0, .slice none 0 0, .slice none 0 0, .slice none 0 0, .slice none 0 0, .slice none 0 0, .slice none 0 0, .slice none 0 0,
  .slice none 0 0, .slice none 0 0, .slice none 0 0, .slice none 0 0, .slice none 0 0, .slice none 0 0, .slice none 0 0, .slice none 0 0, .pointer none]

theorem redCells_size (A D n : Nat) : (redCells A D n).size = 44 := rfl

theorem build66 (A D n : Nat) (w : World) : (Instr.build 66 #[(1, .pointer (some ⟨A, 0, none⟩)), (5, .slice (some ⟨D, 0, none⟩) n n)]).run Try.prog w = .ok (.agg (redCells A D n)) w := run_build w 66 _ _ (by kernel_rfl)

/-- What 'meet' is handed. -/
structure Fresh (w : World) (n R A : Nat) (ai : Option Addr) (wr : World) : Prop where
  below : Below w.heap.size w wr
  rlo : w.heap.size ≤ R
  rlt : R < wr.heap.size
  alo : w.heap.size ≤ A
  alt : A < wr.heap.size
  ne : A ≠ R
  adj : wr.cell? ⟨A, 0, none⟩ = some (.slice ai n n)
  red : ∃ f d, wr.rowIs R 66 44 f ∧ f 1 = .pointer (some ⟨A, 0, none⟩) ∧ f 5 = .slice d n n ∧ f 14 = .int .i64 0 ∧ ∀ s, s < 4 → f (15 + s) = .slice none 0 0

theorem fresh_mk (w : World) (n : Nat) (ai : Option Addr) (o2 : Obj) :
    Fresh w n (w.heap.size + 1 + 1) w.heap.size ai (((w.alloc (.cells #[.slice ai n n, .slice none 0 0] 58)).alloc o2).alloc (.cells (redCells w.heap.size (w.heap.size + 1) n) 66)) := by
  have e2 : ((w.alloc (.cells #[.slice ai n n, .slice none 0 0] 58)).alloc o2).heap.size = w.heap.size + 1 + 1 := by simp
  refine ⟨(((Below.refl _ _).alloc (Nat.le_refl _) _).alloc (by simp) _).alloc (by simp; omega) _, by omega, by simp, by omega, by simp; omega, by omega, ?_, ?_⟩
  · have b1 := ((Below.refl (w.heap.size + 1) (w.alloc (.cells #[.slice ai n n, .slice none 0 0] 58))).alloc (by simp) o2).alloc (by simp) (.cells (redCells w.heap.size (w.heap.size + 1) n) 66)
    rw [b1.cell (p := ⟨w.heap.size, 0, none⟩) (by show w.heap.size < _; omega)]
    simp [go_sem]
  · have r := World.rowIs_alloc ((w.alloc (.cells #[.slice ai n n, .slice none 0 0] 58)).alloc o2) (redCells w.heap.size (w.heap.size + 1) n) 66 (fun i => ((redCells w.heap.size (w.heap.size + 1) n)[i]?).getD undef) (by
      intro i hi
      rw [Array.getElem?_eq_getElem hi]; rfl)
    rw [e2, redCells_size] at r
    refine ⟨_, _, r, rfl, rfl, rfl, fun s hs => ?_⟩
    have : s = 0 ∨ s = 1 ∨ s = 2 ∨ s = 3 := by omega
    rcases this with rfl | rfl | rfl | rfl <;> rfl

set_option maxRecDepth 100000 in
set_option maxHeartbeats 1000000 in
theorem new_any (ai : Option Addr) (n : Nat) (w : World) (hn : n ≤ 4096) :
    Calls Try.prog 27 #[.slice ai n n] w fun e w' => ∃ R A, e = .returned (.pointer (some ⟨R, 0, none⟩)) ∧ Fresh w n R A ai w' := by
  have hmk := run_make_row' (P := Try.prog) 26 3 (.int .i64 0) 8 Try.underlying26 Try.info3 rfl .i64 .i64 n (by omega) (by omega)
  have hb1 := build58 ai n n
  have hb2 := build66 w.heap.size (w.heap.size + 1) n
  go_enter Try.func27, Try.ntmps27
  go_wp2
  go_ret
  exact ⟨_, _, rfl, fresh_mk w n ai _⟩

end Go.Proofs.Qxb6604796a
