/-
  WALK: zzBytes_FnUnusableExact.
-/
import Derived.Test.Qxb6605253aG3
namespace Go.Proofs.Qxb6605253a
open Go.RowKit
set_option linter.unusedVariables false
set_option linter.unusedSimpArgs false

def RetBool (e : Ending) : Prop := ∃ b, e = .returned (.bool b)

set_option maxRecDepth 100000 in
set_option maxHeartbeats 4000000 in
theorem bytes30 (ag af ar ak : Option Addr) (ng cg nf cf nr cr nk ck : Nat) (key : ByteArray) (single : Bool) (g : Nat → G6) (s1 s2 : Nat → ByteArray) (q : Nat → K6) (w : World)
    (h0 : ng ≤ maxLen) (h1 : nf ≤ maxLen) (h2 : nr ≤ maxLen) (h3 : nk ≤ maxLen) (rg : SRow w w.heap.size ag ng 6 (gV g)) (rf : SRow w w.heap.size af nf 1 (sV s1)) (rr : SRow w w.heap.size ar nr 1 (sV s2)) (rk : SRow w w.heap.size ak nk 6 (kV q)) :
    Calls Try.prog 30 #[.slice ag ng cg, .string key, .slice af nf cf, .slice ar nr cr, .bool single, .slice ak nk ck] w fun e w' => RetBool e ∧ w' = w := by
  have RG := hidden rg
  have RF := hidden rf
  have RR := hidden rr
  have RK := hidden rk
  clear rg rf rr rk
  unfold maxLen at h0 h1 h2 h3
  go_enter Try.func30, Try.ntmps30
  go_wp2
  any_goals (go_ret; exact ⟨⟨_, rfl⟩, rfl⟩)
  go_loop [13, 14] (fun z i => ∃ (k : Nat) (q : Int), k ≤ ng ∧ 0 ≤ q ∧ q ≤ 1048576 ∧ z = .int .i64 q ∧ i = .int .i64 k) (fun _ i => ng - (intOf i).toNat)
  case atStart => exact ⟨0, _, by omega, by omega, by omega, rfl, rfl⟩
  case round =>
    obtain ⟨k, y, hk, hq0, hq1, rfl, rfl⟩ := hrel
    by_cases hlt : k < ng
    · rcases RG.out with h0 | ⟨b, o, rfl, _, hc⟩
      · omega
      have c1 : w.cell? ⟨b, o + k * 6 + 1, none⟩ = some (.string (g k).t.be) := hc k hlt 1 (by omega)
      have c2 : w.cell? ⟨b, o + k * 6 + 2, none⟩ = some (.string (g k).t.ar) := hc k hlt 2 (by omega)
      have c4 : w.cell? ⟨b, o + k * 6 + 4, none⟩ = some (.string (g k).pr) := hc k hlt 4 (by omega)
      have c5 : w.cell? ⟨b, o + k * 6 + 5, none⟩ = some (.string (g k).dr) := hc k hlt 5 (by omega)
      clear hc
      go_wp2
      any_goals (go_ret; exact ⟨⟨_, rfl⟩, rfl⟩)
      go_round
      case rel => exact ⟨k + 1, _, by omega, by omega, by omega, rfl, by go_num⟩
      case measure => simp [intOf]; omega
    · have e : ng = k := by omega
      subst e
      clear RG
      go_wp2
      any_goals (go_ret; exact ⟨⟨_, rfl⟩, rfl⟩)
      go_loop [13, 15] (fun z i => ∃ (k : Nat) (q : Int), k ≤ nf ∧ 0 ≤ q ∧ q ≤ 1048576 ∧ z = .int .i64 q ∧ i = .int .i64 k) (fun _ i => nf - (intOf i).toNat)
      case atStart => exact ⟨0, _, by omega, by omega, by omega, rfl, rfl⟩
      case round =>
        obtain ⟨k, y, hk, hq0, hq1, rfl, rfl⟩ := hrel
        by_cases hlt : k < nf
        · rcases RF.out with h0 | ⟨b, o, rfl, _, hc⟩
          · omega
          have c1 : w.cell? ⟨b, o + k, none⟩ = some (.string (s1 k)) := by have := hc k hlt 0 (by omega); rw [Nat.mul_one, Nat.add_zero] at this; exact this
          clear hc
          go_wp2
          any_goals (go_ret; exact ⟨⟨_, rfl⟩, rfl⟩)
          go_round
          case rel => exact ⟨k + 1, _, by omega, by omega, by omega, rfl, by go_num⟩
          case measure => simp [intOf]; omega
        · have e : nf = k := by omega
          subst e
          clear RF
          go_wp2
          any_goals (go_ret; exact ⟨⟨_, rfl⟩, rfl⟩)
          go_loop [13, 16] (fun z i => ∃ (k : Nat) (q : Int), k ≤ nr ∧ 0 ≤ q ∧ q ≤ 1048576 ∧ z = .int .i64 q ∧ i = .int .i64 k) (fun _ i => nr - (intOf i).toNat)
          case atStart => exact ⟨0, _, by omega, by omega, by omega, rfl, rfl⟩
          case round =>
            obtain ⟨k, y, hk, hq0, hq1, rfl, rfl⟩ := hrel
            by_cases hlt : k < nr
            · rcases RR.out with h0 | ⟨b, o, rfl, _, hc⟩
              · omega
              have c1 : w.cell? ⟨b, o + k, none⟩ = some (.string (s2 k)) := by have := hc k hlt 0 (by omega); rw [Nat.mul_one, Nat.add_zero] at this; exact this
              clear hc
              go_wp2
              any_goals (go_ret; exact ⟨⟨_, rfl⟩, rfl⟩)
              go_round
              case rel => exact ⟨k + 1, _, by omega, by omega, by omega, rfl, by go_num⟩
              case measure => simp [intOf]; omega
            · have e : nr = k := by omega
              subst e
              clear RR
              go_wp2
              any_goals (go_ret; exact ⟨⟨_, rfl⟩, rfl⟩)
              go_loop [13, 17] (fun z i => ∃ (k : Nat) (q : Int), k ≤ nk ∧ 0 ≤ q ∧ q ≤ 1048576 ∧ z = .int .i64 q ∧ i = .int .i64 k) (fun _ i => nk - (intOf i).toNat)
              case atStart => exact ⟨0, _, by omega, by omega, by omega, rfl, rfl⟩
              case round =>
                obtain ⟨k, y, hk, hq0, hq1, rfl, rfl⟩ := hrel
                by_cases hlt : k < nk
                · rcases RK.out with h0 | ⟨b, o, rfl, _, hc⟩
                  · omega
                  have c0 : w.cell? ⟨b, o + k * 6, none⟩ = some (.string (q k).en) := hc k hlt 0 (by omega)
                  have c1 : w.cell? ⟨b, o + k * 6 + 1, none⟩ = some (.string (q k).nm) := hc k hlt 1 (by omega)
                  have c2 : w.cell? ⟨b, o + k * 6 + 2, none⟩ = some (.string (q k).t.be) := hc k hlt 2 (by omega)
                  have c3 : w.cell? ⟨b, o + k * 6 + 3, none⟩ = some (.string (q k).t.ar) := hc k hlt 3 (by omega)
                  have c5 : w.cell? ⟨b, o + k * 6 + 5, none⟩ = some (.string (q k).tv) := hc k hlt 5 (by omega)
                  clear hc
                  go_wp2
                  any_goals (go_ret; exact ⟨⟨_, rfl⟩, rfl⟩)
                  go_round
                  case rel => exact ⟨k + 1, _, by omega, by omega, by omega, rfl, by go_num⟩
                  case measure => simp [intOf]; omega
                · have e : nk = k := by omega
                  subst e
                  go_wp2
                  go_ret
                  exact ⟨⟨_, rfl⟩, rfl⟩

end Go.Proofs.Qxb6605253a
