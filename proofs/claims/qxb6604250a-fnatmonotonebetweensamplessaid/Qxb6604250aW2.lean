/-
  WALKS: zIncreasing.
-/
import Derived.Test.Qxb6604250aW1
import Derived.Deep.QuietTactic
import Derived.BigQuiet
namespace Go.Proofs.Qxb6604250a
open Go.RowKit

/-- The first 'len' samples behind 'a' are the bits 'F k j' (j: the field). -/
def Samples (w : World) (b o len : Nat) (F : Nat → Nat → Nat) : Prop :=
  ∀ k, k < len → ∀ j, j < 4 → w.cell? ⟨b, o + (k * 4 + j), none⟩ = some (.float .f64 (F k j))

theorem drewN_drewN (w : World) (n m : Nat) : (w.drewN n).drewN m = w.drewN (n + m) := by
  induction m with
  | zero => rfl
  | succ m ih => rw [Nat.add_succ]; show ((w.drewN n).drewN m).drew = (w.drewN (n + m)).drew; rw [ih]

theorem drewEx {w a : World} {m : Nat} (h : ∃ n, a = w.drewN n) : ∃ n, a.drewN m = w.drewN n := by
  obtain ⟨n, rfl⟩ := h; exact ⟨n + m, drewN_drewN _ _ _⟩

set_option maxHeartbeats 400000 in
theorem increasing_some (b o len cap : Nat) (F : Nat → Nat → Nat) (w : World) (hl : len ≤ cap) (hc : cap ≤ maxLen) (hs : Samples w b o len F) :
    Calls Try.prog 7 #[.slice (some ⟨b, o, none⟩) len cap] w fun e w' => ∃ r, e = .returned (.bool r) ∧ ∃ n, w' = w.drewN n := by
  unfold maxLen at hc
  go_enter Try.func7, Try.ntmps7
  go_wp2
  go_loopw [3] (fun i wr => ∃ k : Nat, k ≤ len ∧ i = .int .i64 k ∧ ∃ n, wr = w.drewN n) (fun i _ => len - (intOf i).toNat)
  case atStart => exact ⟨0, Nat.zero_le _, rfl, 0, rfl⟩
  case round =>
    obtain ⟨k, hk, rfl, n, rfl⟩ := hrel
    by_cases hlt : k < len
    · have c0 := hs k hlt 0 (by omega)
      rw [Nat.add_zero] at c0
      have i1 : (k : Int) < (len : Int) := by omega
      have i0 : (0 : Int) ≤ (k : Int) := by omega
      by_cases hlt2 : k + 1 < len
      · have c1 := hs (k + 1) hlt2 0 (by omega)
        rw [Nat.add_zero] at c1
        have i2 : (k : Int) + 1 < (len : Int) := by omega
        go_wp2
        go_quiet (fail)
        go_wp2
        · go_ret
          exact ⟨_, rfl, drewEx ⟨n, rfl⟩⟩
        · go_quiet (fail)
          go_wp2
          · go_ret
            exact ⟨_, rfl, drewEx (drewEx ⟨n, rfl⟩)⟩
          · go_roundw
            case rel => exact ⟨k + 1, by omega, by go_num, _, rfl⟩
            case measure => simp [intOf]; omega
      · have hd : decide ((k : Int) + 1 < (len : Int)) = false := by simp; omega
        go_wp2
        go_quiet (fail)
        go_wp2
        · go_ret
          exact ⟨_, rfl, drewEx ⟨n, rfl⟩⟩
        · go_quiet (fail)
          go_wp2
          go_roundw
          case rel => exact ⟨k + 1, by omega, by go_num, _, rfl⟩
          case measure => simp [intOf]; omega
    · go_wp2
      go_ret
      exact ⟨_, rfl, n, rfl⟩

end Go.Proofs.Qxb6604250a
