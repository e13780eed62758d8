/-
  WALKS: ZZNewPathFlow, ZZAugment.
-/
import Derived.Test.Qxb6604796aAo
import Derived.Test.Qxb6604796aFb
namespace Go.Proofs.Qxb6604796a
open Go.RowKit Af
set_option linter.unusedVariables false

/-- The new flow's cells. -/
def flowCells (at' ai : Option Addr) (M ct n ci D : Nat) : Array Value := #[.slice at' M ct, .slice ai n ci, .slice none 0 0, .slice none 0 0, .slice none 0 0, .slice (some ⟨D, 0, none⟩) n n, .slice none 0 0]

theorem build52 (at' ai : Option Addr) (M ct n ci D : Nat) (w : World) : (Instr.build 52 #[(0, .slice at' M ct), (1, .slice ai n ci), (5, .slice (some ⟨D, 0, none⟩) n n)]).run Try.prog w = .ok (.agg (flowCells at' ai M ct n ci D)) w := run_build w 52 _ _ (by kernel_rfl)

/-- The new flow: beside what stood before, from N on. -/
theorem flow_mk (w0 w : World) (N n M Gb : Nat) (at' ai : Option Addr) (ct ci : Nat) (l : Nat → Int) (hN : N ≤ w.heap.size) (hb : Below N w0 w) (hg : M = 0 ∨ (N ≤ Gb ∧ w.rowIs Gb 39 M (fun i => .int .i8 (l i)))) :
    AS w0 N (w.heap.size + 2) (w.heap.size + 1) w.heap.size n M Gb (.slice at' M ct) (.slice ai n ci) (fun _ => 0) l (.slice none 0 0) (.slice none 0 0) [] ((w.alloc (.cells (madeCells #[.int .i64 0] n) 3)).alloc (.cells (flowCells at' ai M ct n ci w.heap.size) 52)) := by
  have e2 : (w.alloc (.cells (madeCells #[.int .i64 0] n) 3)).heap.size = w.heap.size + 1 := by simp
  refine ⟨(hb.alloc hN _).alloc (by rw [e2]; omega) _, ⟨by omega, hN, by omega, by omega, by omega⟩, by simp, ?_, (World.rowIs_made w (.int .i64 0) n 3).alloc _, ?_, ⟨rfl, .inl ⟨rfl, rfl⟩⟩⟩
  · have r := World.rowIs_alloc (w.alloc (.cells (madeCells #[.int .i64 0] n) 3)) (flowCells at' ai M ct n ci w.heap.size) 52 (fun i => ((flowCells at' ai M ct n ci w.heap.size)[i]?).getD undef) (by
      intro i hi
      rw [Array.getElem?_eq_getElem hi]; rfl)
    rw [e2] at r
    exact ⟨_, r, rfl, rfl, rfl, rfl⟩
  · rcases hg with g | ⟨g1, g2⟩
    · exact .inl g
    · have := g2.lt
      exact .inr ⟨g1, by omega, by omega, by omega, (g2.alloc _).alloc _⟩

set_option maxRecDepth 100000 in
set_option maxHeartbeats 1000000 in
theorem newFlow (w0 w : World) (N n M Gb : Nat) (at' ai : Option Addr) (ct ci : Nat) (l : Nat → Int) (hn : n ≤ 4096) (hN : N ≤ w.heap.size) (hb : Below N w0 w) (hg : M = 0 ∨ (N ≤ Gb ∧ w.rowIs Gb 39 M (fun i => .int .i8 (l i)))) :
    Calls Try.prog 19 #[.slice at' M ct, .slice ai n ci] w fun e w' => ∃ R V base, e = .returned (.pointer (some ⟨R, 0, none⟩)) ∧ AS w0 N base R V n M Gb (.slice at' M ct) (.slice ai n ci) (fun _ => 0) l (.slice none 0 0) (.slice none 0 0) [] w' := by
  have hmk := run_make_row' (P := Try.prog) 26 3 (.int .i64 0) 8 Try.underlying26 Try.info3 rfl .i64 .i64 n (by omega) (by omega)
  have hb2 := build52 at' ai M ct n ci w.heap.size
  have HF := hidden (flow_mk w0 w N n M Gb at' ai ct ci l hN hb hg)
  clear hb hg hN
  go_enter Try.func19, Try.ntmps19
  go_wp2
  go_ret
  exact ⟨_, _, _, rfl, HF.out⟩

set_option maxRecDepth 100000 in
set_option maxHeartbeats 1000000 in
theorem zaugment (w : World) (N base R V n M Gb : Nat) (at' ai asx ga : Option Addr) (ct ci cs cg ls lo hi : Nat) (A : Nat → Option Addr) (C : Nat → Nat) (L : Nat → Nat) (arc : Nat → Nat → Nat) (hed : Nat → Nat) (sink : Nat) (st : Nat → Nat) (l via : Nat → Int) (fq : Value) (q : List Nat) (wr : World)
    (net : Net n M L arc hed sink l) (hn : n ≤ 4096) (hM : M ≤ 4096) (hs : ls ≤ 4096) (hL : ∀ v, v < n → L v ≤ 131072) (hhi : hi ≤ N) (hN : N ≤ w.heap.size)
    (hto : IRow w lo hi at' M (fun a => (hed a : Int))) (hr : IRows w lo hi ai n A L C (fun v i => (arc v i : Int))) (hst : IRow w lo hi asx ls (fun i => (st i : Int))) (hsl : ∀ i, i < ls → st i < n ∧ st i ≠ sink)
    (hga : M = 0 ∨ ga = some ⟨Gb, 0, none⟩) (has : AS w N base R V n M Gb (.slice at' M ct) (.slice ai n ci) via l fq fq q wr) :
    Calls Try.prog 20 #[.pointer (some ⟨R, 0, none⟩), .slice ga M cg, .slice asx ls cs, .int .i64 sink] wr fun e w' => AugRet w N base R V n M Gb (.slice at' M ct) (.slice ai n ci) L arc hed sink ls st l e w' := by
  have K := hidden (augment_any w N base R V n M Gb at' ai asx ga ct ci cs cg ls lo hi A C L arc hed sink st l via fq q wr net hn hM hs hL hhi hN hto hr hst hsl hga has)
  clear net hL hto hr hst hsl has
  go_enter Try.func20, Try.ntmps20
  go_wp2_with fail
  refine K.out.mono ?_
  rintro e w' ⟨via', l', fq', q', hA, hG⟩
  have HA := hidden hA
  rcases hG with ⟨rfl, h1, h2⟩ | ⟨rfl, h1⟩
  · have H2 := hidden h2
    have H1 := hidden h1
    clear h1 h2 hA
    go_wp2
    go_ret
    exact ⟨via', l', fq', q', HA.out, .inl ⟨rfl, H1.out, H2.out⟩⟩
  · have H1 := hidden h1
    clear h1 hA
    go_wp2
    go_ret
    exact ⟨via', l', fq', q', HA.out, .inr ⟨rfl, H1.out⟩⟩

end Go.Proofs.Qxb6604796a
