/-
  WALKS: Path.at, ZZPathAt.
-/
import Derived.Test.Qxb6604250aW3
namespace Go.Proofs.Qxb6604250a
open Go.RowKit
attribute [local go_sem] run_store_float

theorem build28 (a b c d : Nat) (w : World) : (Instr.build 28 #[(0, .float .f64 a), (1, .float .f64 b), (2, .float .f64 c), (3, .float .f64 d)]).run Try.prog w = .ok (.agg #[.float .f64 a, .float .f64 b, .float .f64 c, .float .f64 d]) w := run_build w 28 _ _ (by kernel_rfl)

set_option maxHeartbeats 400000 in
theorem at_on (g o len cap k : Nat) (t : Nat) (F : Nat → Nat → Nat) (w : World) (hk : k < len) (hg : g < w.heap.size) (hs : Samples w g o len F) (ho : FloatKind.f64.format.order (F k 0) t = some .eq) :
    Calls Try.prog 19 #[.slice (some ⟨g, o, none⟩) len cap, .int .i64 k, .float .f64 t] w fun e w' => e = .returned (.agg #[.float .f64 (F k 0), .float .f64 (F k 1), .float .f64 (F k 2), .float .f64 (F k 3)]) ∧ Below w.heap.size w w' := by
  have c0 : w.cell? ⟨g, o + k * 4, none⟩ = some (.float .f64 (F k 0)) := by simpa using hs k hk 0 (by omega)
  have c1 : w.cell? ⟨g, o + k * 4 + 1, none⟩ = some (.float .f64 (F k 1)) := by simpa [Nat.add_assoc] using hs k hk 1 (by omega)
  have c2 : w.cell? ⟨g, o + k * 4 + 2, none⟩ = some (.float .f64 (F k 2)) := by simpa [Nat.add_assoc] using hs k hk 2 (by omega)
  have c3 : w.cell? ⟨g, o + k * 4 + 3, none⟩ = some (.float .f64 (F k 3)) := by simpa [Nat.add_assoc] using hs k hk 3 (by omega)
  have n1 : ¬ (w.heap.size = g) := by omega
  have n2 : ¬ (g = w.heap.size) := by omega
  have n3 : ¬ (g = w.heap.size + 1) := by omega
  have n4 : ¬ (w.heap.size + 1 = g) := by omega
  have i1 : (k : Int) < (len : Int) := by omega
  go_enter Try.func19, Try.ntmps19
  go_wp2
  exact bodyPost_ret (v := .agg #[.float .f64 (F k 0), .float .f64 (F k 1), .float .f64 (F k 2), .float .f64 (F k 3)]) (by simp [results, Try.results19, go_sem]) rfl ⟨rfl, ((Below.refl _ _).alloc (Nat.le_refl _) _).alloc (by simp) _⟩

set_option maxHeartbeats 1000000 in
theorem at_in (g o len cap k : Nat) (t : Nat) (F : Nat → Nat → Nat) (w : World) (hk : k + 1 < len) (hl : len ≤ 1048576) (hg : g < w.heap.size) (hs : Samples w g o len F) (ho : (FloatKind.f64.format.order (F k 0) t == some .eq) = false)
    (d e q x1 x2 x3 y1 y2 y3 z1 z2 z3 : Nat)
    (hd : FloatKind.f64.format.sub t (F k 0) = some d) (he : FloatKind.f64.format.sub (F (k + 1) 0) (F k 0) = some e) (hq : FloatKind.f64.format.div d e = some q)
    (hx1 : FloatKind.f64.format.sub (F (k + 1) 1) (F k 1) = some x1) (hx2 : FloatKind.f64.format.mul q x1 = some x2) (hx3 : FloatKind.f64.format.add (F k 1) x2 = some x3)
    (hy1 : FloatKind.f64.format.sub (F (k + 1) 2) (F k 2) = some y1) (hy2 : FloatKind.f64.format.mul q y1 = some y2) (hy3 : FloatKind.f64.format.add (F k 2) y2 = some y3)
    (hz1 : FloatKind.f64.format.sub (F (k + 1) 3) (F k 3) = some z1) (hz2 : FloatKind.f64.format.mul q z1 = some z2) (hz3 : FloatKind.f64.format.add (F k 3) z2 = some z3) :
    Calls Try.prog 19 #[.slice (some ⟨g, o, none⟩) len cap, .int .i64 k, .float .f64 t] w fun e w' => e = .returned (.agg #[.float .f64 t, .float .f64 x3, .float .f64 y3, .float .f64 z3]) ∧ Below w.heap.size w w' := by
  have c0 : w.cell? ⟨g, o + k * 4, none⟩ = some (.float .f64 (F k 0)) := by simpa using hs k (by omega) 0 (by omega)
  have c1 : w.cell? ⟨g, o + k * 4 + 1, none⟩ = some (.float .f64 (F k 1)) := by simpa [Nat.add_assoc] using hs k (by omega) 1 (by omega)
  have c2 : w.cell? ⟨g, o + k * 4 + 2, none⟩ = some (.float .f64 (F k 2)) := by simpa [Nat.add_assoc] using hs k (by omega) 2 (by omega)
  have c3 : w.cell? ⟨g, o + k * 4 + 3, none⟩ = some (.float .f64 (F k 3)) := by simpa [Nat.add_assoc] using hs k (by omega) 3 (by omega)
  have d0 : w.cell? ⟨g, o + (k + 1) * 4, none⟩ = some (.float .f64 (F (k + 1) 0)) := by simpa using hs (k + 1) hk 0 (by omega)
  have d1 : w.cell? ⟨g, o + (k + 1) * 4 + 1, none⟩ = some (.float .f64 (F (k + 1) 1)) := by simpa [Nat.add_assoc] using hs (k + 1) hk 1 (by omega)
  have d2 : w.cell? ⟨g, o + (k + 1) * 4 + 2, none⟩ = some (.float .f64 (F (k + 1) 2)) := by simpa [Nat.add_assoc] using hs (k + 1) hk 2 (by omega)
  have d3 : w.cell? ⟨g, o + (k + 1) * 4 + 3, none⟩ = some (.float .f64 (F (k + 1) 3)) := by simpa [Nat.add_assoc] using hs (k + 1) hk 3 (by omega)
  have n1 : ¬ (w.heap.size = g) := by omega
  have n2 : ¬ (g = w.heap.size) := by omega
  have n3 : ¬ (g = w.heap.size + 1) := by omega
  have n4 : ¬ (w.heap.size + 1 = g) := by omega
  have n5 : ¬ (g = w.heap.size + 2) := by omega
  have n6 : ¬ (w.heap.size + 2 = g) := by omega
  have i1 : (k : Int) < (len : Int) := by omega
  have i2 : (k : Int) + 1 < (len : Int) := by omega
  have r1 := fun w => run_float_arith (P := Try.prog) w .sub 23 .f64 _ _ d hd
  have r2 := fun w => run_float_arith (P := Try.prog) w .sub 23 .f64 _ _ e he
  have r3 := fun w => run_float_arith (P := Try.prog) w .quo 23 .f64 _ _ q hq
  have a1 := fun w => run_float_arith (P := Try.prog) w .sub 23 .f64 _ _ x1 hx1
  have a2 := fun w => run_float_arith (P := Try.prog) w .mul 23 .f64 _ _ x2 hx2
  have a3 := fun w => run_float_arith (P := Try.prog) w .add 23 .f64 _ _ x3 hx3
  have b1 := fun w => run_float_arith (P := Try.prog) w .sub 23 .f64 _ _ y1 hy1
  have b2 := fun w => run_float_arith (P := Try.prog) w .mul 23 .f64 _ _ y2 hy2
  have b3 := fun w => run_float_arith (P := Try.prog) w .add 23 .f64 _ _ y3 hy3
  have f1 := fun w => run_float_arith (P := Try.prog) w .sub 23 .f64 _ _ z1 hz1
  have f2 := fun w => run_float_arith (P := Try.prog) w .mul 23 .f64 _ _ z2 hz2
  have f3 := fun w => run_float_arith (P := Try.prog) w .add 23 .f64 _ _ z3 hz3
  have hbd := build28 t x3 y3 z3
  clear hd he hq hx1 hx2 hx3 hy1 hy2 hy3 hz1 hz2 hz3
  go_enter Try.func19, Try.ntmps19
  go_wp2
  exact bodyPost_ret (v := .agg #[.float .f64 t, .float .f64 x3, .float .f64 y3, .float .f64 z3]) (by simp [results, Try.results19, go_sem]) rfl ⟨rfl, (((Below.refl _ _).alloc (Nat.le_refl _) _).alloc (by simp) _).alloc (by simp; omega) _⟩

/-- What a call of 'at' gives, whichever way: handed on by 'ZZPathAt'. -/
theorem pathAt_of (v p i t : Value) (w : World) (c0 c1 c2 c3 : Nat) (hv : v = .agg #[.float .f64 c0, .float .f64 c1, .float .f64 c2, .float .f64 c3])
    (h : ∀ o, Calls Try.prog 19 #[p, i, t] (w.alloc o) fun e w' => e = .returned v ∧ Below (w.heap.size + 1) (w.alloc o) w') :
    Calls Try.prog 8 #[p, i, t] w fun e w' => e = .returned v ∧ Below w.heap.size w w' := by
  subst hv
  go_enter Try.func8, Try.ntmps8
  go_wp2_with fail
  refine (h _).mono ?_
  rintro e w1 ⟨rfl, hb⟩
  have hc0 := hb.cell (p := ⟨w.heap.size, 0, none⟩) (by simp)
  have hc1 := hb.cell (p := ⟨w.heap.size, 1, none⟩) (by simp)
  have hc2 := hb.cell (p := ⟨w.heap.size, 2, none⟩) (by simp)
  have hc3 := hb.cell (p := ⟨w.heap.size, 3, none⟩) (by simp)
  have hf0 := hb.frozen (p := ⟨w.heap.size, 0, none⟩) (by simp)
  have hf1 := hb.frozen (p := ⟨w.heap.size, 1, none⟩) (by simp)
  have hf2 := hb.frozen (p := ⟨w.heap.size, 2, none⟩) (by simp)
  have hf3 := hb.frozen (p := ⟨w.heap.size, 3, none⟩) (by simp)
  have hz := hb.size
  simp at hc0 hc1 hc2 hc3 hf0 hf1 hf2 hf3 hz
  go_wp2
  exact bodyPost_ret (v := .agg #[.float .f64 c0, .float .f64 c1, .float .f64 c2, .float .f64 c3]) (by simp [results, Try.results8, go_sem, hc0, hc1, hc2, hc3]) rfl
    ⟨rfl, ((((((Below.refl _ _).alloc (Nat.le_refl _) _).trans (hb.mono (by omega))).setCell (Nat.le_refl _) _).setCell (Nat.le_refl _) _).setCell (Nat.le_refl _) _).setCell (Nat.le_refl _) _⟩

theorem Samples.alloc {w : World} {b o len : Nat} {F : Nat → Nat → Nat} (h : Samples w b o len F) (hb : b < w.heap.size) (ob : Obj) : Samples (w.alloc ob) b o len F := by
  intro k hk j hj
  rw [((Below.refl w.heap.size w).alloc (Nat.le_refl _) ob).cell (p := ⟨b, o + (k * 4 + j), none⟩) hb]
  exact h k hk j hj

/-- The fraction of the segment at 'zt'. -/
def Frac (f : Ieee.Format) (za zD zt zf : Int) : Prop := ∃ zd, Fl.RZ f (zt - za) 1 zd ∧ Fl.RZ f (zd * (Fl.one f : Int)) zD.natAbs zf

theorem Frac.mono {f : Ieee.Format} {za zD z1 z2 f1 f2 : Int} (hD : 0 < zD) (h1 : Frac f za zD z1 f1) (h2 : Frac f za zD z2 f2) (h : z1 ≤ z2) : f1 ≤ f2 := by
  obtain ⟨d1, a1, b1⟩ := h1
  obtain ⟨d2, a2, b2⟩ := h2
  exact Fl.frac_mono (by omega) b1 b2 (Fl.RZ.mono (by omega) (by omega) a1 a2 (by omega))

def K0 : Nat := 1023 * 2 ^ 52
def K1 : Nat := 2023 * 2 ^ 52
def K2 : Nat := 2024 * 2 ^ 52
def K3 : Nat := 2025 * 2 ^ 52
theorem bnds : Fl.Bounds Ieee.double K0 K1 K2 K3 := Fl.bounds_double

/-- A finite word within 2^1000. -/
def Sm (x : Nat) (z : Int) : Prop := Fl.Val Ieee.double x z ∧ z.natAbs ≤ Fl.units Ieee.double.binade K1

/-- WHAT A CALL OF 'ZZPathAt' GIVES AT AN INSTANT OF SEGMENT k. -/
theorem pathAt_seg (g o len cap k : Nat) (F : Nat → Nat → Nat) (hk : k + 1 < len) (hl : len ≤ 1048576) (A B : Nat → Int)
    (hA : ∀ j, j < 4 → Sm (F k j) (A j)) (hB : ∀ j, j < 4 → Sm (F (k + 1) j) (B j)) (hAB : A 0 < B 0) :
    ∃ (zD : Int) (DX : Nat → Int), 0 < zD ∧ (∀ j, 1 ≤ j → j < 4 → Fl.RZ Ieee.double (B j - A j) 1 (DX j)) ∧
    ∀ (t : Nat) (zt : Int), Sm t zt → A 0 ≤ zt → zt < B 0 →
      ∃ (c : Nat → Nat) (zf : Int) (G : Nat → Int), Frac Ieee.double (A 0) zD zt zf ∧ FloatKind.f64.format.order (c 0) t = some .eq ∧ (∀ j, 1 ≤ j → j < 4 → Fl.Val Ieee.double (c j) (G j) ∧ Fl.Way Ieee.double (A j) (DX j) zf (G j)) ∧
        ∀ w, Samples w g o len F → g < w.heap.size →
          Calls Try.prog 8 #[.slice (some ⟨g, o, none⟩) len cap, .int .i64 k, .float .f64 t] w fun e w' => e = .returned (.agg #[.float .f64 (c 0), .float .f64 (c 1), .float .f64 (c 2), .float .f64 (c 3)]) ∧ Below w.heap.size w w' := by
  obtain ⟨D, zD, hD1, hD2, hD3, hD4⟩ := Fl.diff bnds (hA 0 (by omega)).1 (hB 0 (by omega)).1 (hA 0 (by omega)).2 (hB 0 (by omega)).2
  obtain ⟨x1, X1, hx1, hx2, hx3, hx4⟩ := Fl.diff bnds (hA 1 (by omega)).1 (hB 1 (by omega)).1 (hA 1 (by omega)).2 (hB 1 (by omega)).2
  obtain ⟨y1, Y1, hy1, hy2, hy3, hy4⟩ := Fl.diff bnds (hA 2 (by omega)).1 (hB 2 (by omega)).1 (hA 2 (by omega)).2 (hB 2 (by omega)).2
  obtain ⟨z1, Z1, hz1, hz2, hz3, hz4⟩ := Fl.diff bnds (hA 3 (by omega)).1 (hB 3 (by omega)).1 (hA 3 (by omega)).2 (hB 3 (by omega)).2
  have hDpos : 0 < zD := by
    have h1 : Fl.RZ Ieee.double 1 1 1 := by
      have := Fl.rz_units Ieee.double 1
      rw [show Fl.units Ieee.double.binade 1 = 1 by unfold Fl.units; rw [if_pos (by decide)]] at this
      exact this
    have := Fl.RZ.mono (by omega) (by omega) h1 hD3 (by omega)
    omega
  refine ⟨zD, fun j => if j = 1 then X1 else if j = 2 then Y1 else Z1, hDpos, ?_, ?_⟩
  · intro j h1 h4
    have : j = 1 ∨ j = 2 ∨ j = 3 := by omega
    rcases this with rfl | rfl | rfl
    · exact hx3
    · exact hy3
    · exact hz3
  intro t zt ht h0 h1
  by_cases he : A 0 = zt
  · have ho : FloatKind.f64.format.order (F k 0) t = some .eq := by
      rw [order_eq (hA 0 (by omega)).1 ht.1, if_neg (by omega), if_pos he]
    refine ⟨F k, 0, A, ⟨0, ?_, ?_⟩, ho, ?_, ?_⟩
    · rw [← he, Int.sub_self]; exact Fl.rz_zero _ _ (by omega)
    · rw [Int.zero_mul]; exact Fl.rz_zero _ _ (by omega)
    · intro j _ h4
      exact ⟨(hA j h4).1, Fl.Way.start (hA j h4).1 _⟩
    · intro w hs hg
      exact pathAt_of _ _ _ _ w _ _ _ _ rfl (fun ob => by
        have := at_on g o len cap k t F (w.alloc ob) (by omega) (by simp; omega) (hs.alloc hg ob) ho
        simpa using this)
  · have ho : (FloatKind.f64.format.order (F k 0) t == some .eq) = false := by
      rw [order_eq (hA 0 (by omega)).1 ht.1, if_pos (by omega)]; rfl
    obtain ⟨d, zd, hd1, hd2, hd3, hd4⟩ := Fl.diff bnds (hA 0 (by omega)).1 ht.1 (hA 0 (by omega)).2 ht.2
    have hd0 : 0 ≤ zd := by
      obtain ⟨_, _, _, c, _⟩ := hd3
      exact c (by omega)
    have hdD : zd ≤ zD := Fl.RZ.mono (by omega) (by omega) hd3 hD3 (by omega)
    obtain ⟨q, zf, hq1, hq2, hq3, hq4, hq5⟩ := Fl.frac bnds hd2 hD2 hd0 hdD hDpos
    obtain ⟨x2, x3, gx, a1, a2, a3, a4⟩ := Fl.point bnds (hA 1 (by omega)).1 hx2 hq2 (hA 1 (by omega)).2 hx4 hq4 hq5
    obtain ⟨y2, y3, gy, b1, b2, b3, b4⟩ := Fl.point bnds (hA 2 (by omega)).1 hy2 hq2 (hA 2 (by omega)).2 hy4 hq4 hq5
    obtain ⟨z2, z3, gz, e1, e2, e3, e4⟩ := Fl.point bnds (hA 3 (by omega)).1 hz2 hq2 (hA 3 (by omega)).2 hz4 hq4 hq5
    refine ⟨fun j => if j = 0 then t else if j = 1 then x3 else if j = 2 then y3 else z3, zf, fun j => if j = 1 then gx else if j = 2 then gy else gz, ⟨zd, hd3, hq3⟩, ?_, ?_, ?_⟩
    · show FloatKind.f64.format.order t t = _
      rw [order_eq ht.1 ht.1, if_neg (by omega), if_pos rfl]
    · intro j h1 h4
      have : j = 1 ∨ j = 2 ∨ j = 3 := by omega
      rcases this with rfl | rfl | rfl
      · exact ⟨a3, a4⟩
      · exact ⟨b3, b4⟩
      · exact ⟨e3, e4⟩
    · intro w hs hg
      exact pathAt_of _ _ _ _ w t x3 y3 z3 rfl (fun ob => by
        have := at_in g o len cap k t F (w.alloc ob) hk hl (by simp; omega) (hs.alloc hg ob) ho d D q x1 x2 x3 y1 y2 y3 z1 z2 z3 hd1 hD1 hq1 hx1 a1 a2 hy1 b1 b2 hz1 e1 e2
        simpa using this)

end Go.Proofs.Qxb6604250a
