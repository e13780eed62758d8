/-
  WALKS: zzBytes_.., zSmall, zFinite, zMoves.
-/
import Derived.Test.Qxb6604250aRows
import Derived.Test.Qxb6604250aFlLaw
import Derived.WalkKit
import Derived.WalkSpells
import Derived.WalkLawsBesides
import Derived.Deep.RegionWith
namespace Go.Proofs.Qxb6604250a
open Go.RowKit

set_option maxHeartbeats 400000 in
theorem bytes_any (a : Option Addr) (len cap : Nat) (i : Int) (t1 t2 : Nat) (w : World) (hl : len ≤ maxLen) :
    Calls Try.prog 13 #[.slice a len cap, .int .i64 i, .float .f64 t1, .float .f64 t2] w fun e w' => e = .returned (.bool (decide (len ≤ 1048576))) ∧ w' = w := by
  unfold maxLen at hl
  by_cases h : (len : Int) ≤ 1048576
  · go_enter Try.func13, Try.ntmps13
    go_wp2
    go_ret
    exact ⟨by simp; omega, rfl⟩
  · go_enter Try.func13, Try.ntmps13
    go_wp2
    go_ret
    exact ⟨by simp; omega, rfl⟩

/-- -2^1000 and 2^1000, as bits. -/
def lowW : Nat := 18334154083025289216
def highW : Nat := 9110782046170513408

def small (x : Nat) : Bool :=
  (FloatKind.f64.format.order x lowW == some .gt || FloatKind.f64.format.order x lowW == some .eq) &&
  (FloatKind.f64.format.order x highW == some .lt || FloatKind.f64.format.order x highW == some .eq)

set_option maxHeartbeats 400000 in
theorem small_any (x : Nat) (w : World) :
    Calls Try.prog 11 #[.float .f64 x] w fun e w' => e = .returned (.bool (small x)) ∧ w' = w := by
  have key : ∀ o1 o2, FloatKind.f64.format.order x 18334154083025289216 = o1 → FloatKind.f64.format.order x 9110782046170513408 = o2 →
      Calls Try.prog 11 #[.float .f64 x] w fun e w' => e = .returned (.bool ((o1 == some .gt || o1 == some .eq) && (o2 == some .lt || o2 == some .eq))) ∧ w' = w := by
    intro o1 o2 h1 h2
    rcases o1 with _ | (_ | _ | _) <;> rcases o2 with _ | (_ | _ | _)
    all_goals
      go_enter Try.func11, Try.ntmps11
      go_wp2
      go_ret
      exact ⟨rfl, rfl⟩
  exact key _ _ rfl rfl

theorem val_zero : Fl.Val Ieee.double 0 0 := by
  have h := Fl.val_word Ieee.double false 0 (by decide)
  rw [Fl.units_zero _ (Fl.binade_pos _)] at h
  exact h

theorem order_eq {x y : Nat} {zx zy : Int} (hx : Fl.Val Ieee.double x zx) (hy : Fl.Val Ieee.double y zy) :
    FloatKind.f64.format.order x y = some (if zx < zy then .lt else if zx = zy then .eq else .gt) := by
  rw [← Fl.cmp_int]; exact Fl.order_val hx hy

set_option maxHeartbeats 400000 in
theorem finite_any (x : Nat) (z : Int) (w : World) (hx : Fl.Val Ieee.double x z) :
    Calls Try.prog 20 #[.float .f64 x] w fun e w' => e = .returned (.bool true) ∧ w' = w := by
  obtain ⟨d, h1, h2⟩ := Fl.sub_self hx (by decide)
  have h3 := order_eq h2 val_zero
  simp at h3
  have hs := fun w => run_float_arith (P := Try.prog) w .sub 23 .f64 x x d h1
  clear h1 h2 hx
  go_enter Try.func20, Try.ntmps20
  go_wp2
  go_ret
  exact ⟨rfl, rfl⟩

set_option maxHeartbeats 800000 in
theorem moves_any (a b u v : Nat) (za zb zu zv : Int) (w : World) (ha : Fl.Val Ieee.double a za) (hb : Fl.Val Ieee.double b zb) (hu : Fl.Val Ieee.double u zu) (hv : Fl.Val Ieee.double v zv)
    (h1 : za ≤ zb → zu ≤ zv) (h2 : zb ≤ za → zv ≤ zu) :
    Calls Try.prog 14 #[.float .f64 a, .float .f64 b, .float .f64 u, .float .f64 v] w fun e w' => e = .returned (.bool true) ∧ w' = w := by
  have o1 := order_eq hb ha
  have o2 := order_eq hu hv
  have Hu : Hid (Fl.Val Ieee.double u zu) := hu
  have Hv : Hid (Fl.Val Ieee.double v zv) := hv
  clear hu hv ha hb
  rcases Int.lt_trichotomy zb za with k | k | k
  · rw [if_pos k] at o1
    have k2 := h2 (by omega)
    rcases Int.lt_or_eq_of_le k2 with m | m
    all_goals
      first | rw [if_neg (by omega), if_neg (by omega)] at o2 | rw [if_neg (by omega), if_pos (by omega)] at o2
      clear h1 h2 k k2 m
      go_enter Try.func14, Try.ntmps14
      go_wp2_with (first | (go_at_call_of 20 u; refine (finite_any _ _ _ Hu.out).mono ?_; rintro e w' ⟨rfl, rfl⟩) | (go_at_call_of 20 v; refine (finite_any _ _ _ Hv.out).mono ?_; rintro e w' ⟨rfl, rfl⟩))
      go_ret
      exact ⟨rfl, rfl⟩
  · rw [if_neg (by omega), if_pos k] at o1
    have m : zu = zv := by have := h1 (by omega); have := h2 (by omega); omega
    rw [if_neg (by omega), if_pos m] at o2
    clear h1 h2 k m
    go_enter Try.func14, Try.ntmps14
    go_wp2_with (first | (go_at_call_of 20 u; refine (finite_any _ _ _ Hu.out).mono ?_; rintro e w' ⟨rfl, rfl⟩) | (go_at_call_of 20 v; refine (finite_any _ _ _ Hv.out).mono ?_; rintro e w' ⟨rfl, rfl⟩))
    go_ret
    exact ⟨rfl, rfl⟩
  · rw [if_neg (by omega), if_neg (by omega)] at o1
    have k2 := h1 (by omega)
    rcases Int.lt_or_eq_of_le k2 with m | m
    all_goals
      first | rw [if_pos (by omega)] at o2 | rw [if_neg (by omega), if_pos (by omega)] at o2
      clear h1 h2 k k2 m
      go_enter Try.func14, Try.ntmps14
      go_wp2_with (first | (go_at_call_of 20 u; refine (finite_any _ _ _ Hu.out).mono ?_; rintro e w' ⟨rfl, rfl⟩) | (go_at_call_of 20 v; refine (finite_any _ _ _ Hv.out).mono ?_; rintro e w' ⟨rfl, rfl⟩))
      go_ret
      exact ⟨rfl, rfl⟩

end Go.Proofs.Qxb6604250a
