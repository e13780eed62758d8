/-
  WALKS: zToSamples.
-/
import Derived.Test.Qxb6604250aW2
import Derived.Deep.RegionHeld3
import Derived.Deep.OwnRows
namespace Go.Proofs.Qxb6604250a
open Go.RowKit

theorem run_store_float (P : Program) (w : World) (a : Addr) (m : Mode) (k : FloatKind) (b : Nat) : (store a (.float k b) m).run P w = stored P w a (.float k b) m := run_store P w a _ m rfl
attribute [local go_sem] run_store_float

theorem Try.info28 : (Try.prog.info? 28).map (fun i => (i.zero, i.size, i.bytes)) = some (some (.agg #[.float .f64 0, .float .f64 0, .float .f64 0, .float .f64 0]), 4, 32) := by kernel_rfl

theorem made4 (z0 z1 z2 z3 : Value) (n : Nat) : ∀ i, i < n → ∃ v, (madeCells #[z0, z1, z2, z3] n)[i]? = some v := by
  intro i hi
  rw [Array.getElem?_eq_getElem (by rw [size_madeCells]; exact hi)]
  exact ⟨_, rfl⟩

theorem make28 (n : Nat) (h : n ≤ 1048576) (w : World) :
    (Instr.makeSlice 30 (.int .i64 (n : Int)) (.int .i64 (n : Int))).run Try.prog w = .ok (.slice (some ⟨w.heap.size, 0, none⟩) n n) (w.alloc (.cells (madeCells #[.float .f64 0, .float .f64 0, .float .f64 0, .float .f64 0] (n * 4)) 28)) := by
  obtain ⟨i, hi, hz, hs, hb⟩ := info_parts Try.info28
  have hr := run_make (P := Try.prog) w 30 28 i _ Try.underlying30 hi hz .i64 .i64 n n (by omega) (Int.le_refl _) (by rw [hb]; omega) (by omega)
  simp only [Int.toNat_natCast, hs] at hr
  exact hr

theorem rowIs_made4 (w : World) (n : Nat) : ∃ f, (w.alloc (.cells (madeCells #[.float .f64 0, .float .f64 0, .float .f64 0, .float .f64 0] n) 28)).rowIs w.heap.size 28 n f := by
  refine ⟨fun i => ((madeCells #[.float .f64 0, .float .f64 0, .float .f64 0, .float .f64 0] n)[i]?).getD undef, _, Go.Deep.blk_alloc_new _ _, size_madeCells _ _, ?_⟩
  intro i hi
  show _ = some (Option.getD _ _)
  rw [Array.getElem?_eq_getElem (by rw [size_madeCells]; exact hi)]
  rfl

theorem row_step {wr : World} {N n k : Nat} {f : Nat → Value} (h : wr.rowIs N 28 n f) (v0 v1 v2 v3 : Value) :
    (((((wr.setCell ⟨N, k * 4, none⟩ v0).setCell ⟨N, k * 4 + 1, none⟩ v1).setCell ⟨N, k * 4 + 2, none⟩ v2).setCell ⟨N, k * 4 + 3, none⟩ v3).drew).rowIs N 28 n
      (fun j => if j = k * 4 + 3 then v3 else if j = k * 4 + 2 then v2 else if j = k * 4 + 1 then v1 else if j = k * 4 then v0 else f j) :=
  ((((h.set _ v0).set _ v1).set _ v2).set _ v3).drew

theorem row_read {F : Nat → Nat → Nat} {f : Nat → Value} {k : Nat} (hf : ∀ k', k' < k → ∀ j, j < 4 → f (k' * 4 + j) = .float .f64 (F k' j)) :
    ∀ k', k' < k + 1 → ∀ j, j < 4 →
      (fun j => if j = k * 4 + 3 then Value.float .f64 (F k 3) else if j = k * 4 + 2 then .float .f64 (F k 2) else if j = k * 4 + 1 then .float .f64 (F k 1) else if j = k * 4 then .float .f64 (F k 0) else f j) (k' * 4 + j) = .float .f64 (F k' j) := by
  intro k' hk' j hj
  dsimp only
  by_cases e : k' = k
  · subst e
    have : j = 0 ∨ j = 1 ∨ j = 2 ∨ j = 3 := by omega
    rcases this with rfl | rfl | rfl | rfl
    · rw [if_neg (by omega), if_neg (by omega), if_neg (by omega), if_pos (by omega)]
    · rw [if_neg (by omega), if_neg (by omega), if_pos rfl]
    · rw [if_neg (by omega), if_pos rfl]
    · rw [if_pos rfl]
  · rw [if_neg (by omega), if_neg (by omega), if_neg (by omega), if_neg (by omega)]
    exact hf k' (by omega) j hj

theorem below_step {w wr : World} {k : Nat} (h : Below w.heap.size w wr) (v0 v1 v2 v3 : Value) :
    Below w.heap.size w (((((wr.setCell ⟨w.heap.size, k * 4, none⟩ v0).setCell ⟨w.heap.size, k * 4 + 1, none⟩ v1).setCell ⟨w.heap.size, k * 4 + 2, none⟩ v2).setCell ⟨w.heap.size, k * 4 + 3, none⟩ v3).drew) :=
  ((((h.setCell (Nat.le_refl _) _).setCell (Nat.le_refl _) _).setCell (Nat.le_refl _) _).setCell (Nat.le_refl _) _).drew

theorem row_samples {wr : World} {N len : Nat} {F : Nat → Nat → Nat} {f : Nat → Value} (h : wr.rowIs N 28 (len * 4) f) (hf : ∀ k', k' < len → ∀ j, j < 4 → f (k' * 4 + j) = .float .f64 (F k' j)) : Samples wr N 0 len F := by
  intro k hk j hj
  rw [Nat.zero_add, h.cell (by omega), hf k hk j hj]

set_option maxHeartbeats 400000 in
theorem toSamples_any (b o len cap : Nat) (F : Nat → Nat → Nat) (w : World) (hl : len ≤ cap) (hl2 : len ≤ 1048576) (hb : b < w.heap.size) (hs : Samples w b o len F) :
    Calls Try.prog 9 #[.slice (some ⟨b, o, none⟩) len cap] w fun e w' => e = .returned (.slice (some ⟨w.heap.size, 0, none⟩) len len) ∧ Samples w' w.heap.size 0 len F ∧ Below w.heap.size w w' ∧ w.heap.size < w'.heap.size := by
  have hmk := make28 len hl2
  obtain ⟨f0, hf0⟩ := rowIs_made4 w (len * 4)
  go_enter Try.func9, Try.ntmps9
  go_wp2
  go_loopw [4] (fun i wr => ∃ (k : Nat) (f : Nat → Value), k ≤ len ∧ i = .int .i64 k ∧ wr.rowIs w.heap.size 28 (len * 4) f ∧ (∀ k', k' < k → ∀ j, j < 4 → f (k' * 4 + j) = .float .f64 (F k' j)) ∧ Below w.heap.size w wr) (fun i _ => len - (intOf i).toNat)
  case atStart => exact ⟨0, f0, Nat.zero_le _, rfl, hf0, fun k' h => absurd h (Nat.not_lt_zero _), (Below.refl _ _).alloc (Nat.le_refl _) _⟩
  case round =>
    obtain ⟨k, f, hk, rfl, hrow, hf, hbel⟩ := hrel
    by_cases hlt : k < len
    · have c0 : wr.cell? ⟨b, o + k * 4, none⟩ = some (.float .f64 (F k 0)) := by rw [hbel.cell (p := ⟨b, o + k * 4, none⟩) hb]; simpa using hs k hlt 0 (by omega)
      have c1 : wr.cell? ⟨b, o + k * 4 + 1, none⟩ = some (.float .f64 (F k 1)) := by rw [hbel.cell (p := ⟨b, o + k * 4 + 1, none⟩) hb]; simpa [Nat.add_assoc] using hs k hlt 1 (by omega)
      have c2 : wr.cell? ⟨b, o + k * 4 + 2, none⟩ = some (.float .f64 (F k 2)) := by rw [hbel.cell (p := ⟨b, o + k * 4 + 2, none⟩) hb]; simpa [Nat.add_assoc] using hs k hlt 2 (by omega)
      have c3 : wr.cell? ⟨b, o + k * 4 + 3, none⟩ = some (.float .f64 (F k 3)) := by rw [hbel.cell (p := ⟨b, o + k * 4 + 3, none⟩) hb]; simpa [Nat.add_assoc] using hs k hlt 3 (by omega)
      have d0 := hrow.cell (i := k * 4) (by omega)
      have d1 := hrow.cell (i := k * 4 + 1) (by omega)
      have d2 := hrow.cell (i := k * 4 + 2) (by omega)
      have d3 := hrow.cell (i := k * 4 + 3) (by omega)
      have e0 := hrow.frozen (k * 4)
      have e1 := hrow.frozen (k * 4 + 1)
      have e2 := hrow.frozen (k * 4 + 2)
      have e3 := hrow.frozen (k * 4 + 3)
      have n1 : ¬ (w.heap.size = b) := by omega
      have n2 : ¬ (b = w.heap.size) := by omega
      have i1 : (k : Int) < (len : Int) := by omega
      have i0 : (0 : Int) ≤ (k : Int) := by omega
      go_wp2
      go_region_held3 (fun w' => w'.cell? ⟨b, o + k * 4, none⟩ = some (.float .f64 (F k 0)) ∧ w'.cell? ⟨b, o + k * 4 + 1, none⟩ = some (.float .f64 (F k 1)) ∧ w'.cell? ⟨b, o + k * 4 + 2, none⟩ = some (.float .f64 (F k 2)) ∧ w'.cell? ⟨b, o + k * 4 + 3, none⟩ = some (.float .f64 (F k 3))) (go_keep) (fail)
      go_wp2
      go_roundw
      case rel => exact ⟨k + 1, _, by omega, by go_num, row_step hrow _ _ _ _, row_read hf, below_step hbel _ _ _ _⟩
      case measure => simp [intOf]; omega
    · have e : k = len := by omega
      subst e
      go_wp2
      go_ret
      exact ⟨rfl, row_samples hrow hf, hbel, hrow.lt⟩

end Go.Proofs.Qxb6604250a
