/-
  WALKS: zzMeetDomain.
-/
import Derived.Test.Qxb6604796aB2
namespace Go.Proofs.Qxb6604796a
open Go.RowKit

/-- The domain that zzMeetDomain tests. -/
structure Dom (n : Nat) (L : Nat → Nat) (Z : Nat → Nat → Int) (l1 : Nat) (Z1 : Nat → Int) (l2 : Nat) (Z2 : Nat → Int) (l3 : Nat) (Z3 : Nat → Int) : Prop where
  rows : ∀ v, v < n → ∀ i, i < L v → 0 ≤ Z v i ∧ Z v i < n
  one : ∀ i, i < l1 → 0 ≤ Z1 i ∧ Z1 i < n
  other : ∀ i, i < l2 → 0 ≤ Z2 i ∧ Z2 i < n
  crashed : ∀ i, i < l3 → 0 ≤ Z3 i ∧ Z3 i < n
  oneCrashed : ∀ i, i < l1 → ∀ j, j < l3 → Z1 i ≠ Z3 j
  otherCrashed : ∀ i, i < l2 → ∀ j, j < l3 → Z2 i ≠ Z3 j
  otherOne : ∀ i, i < l2 → ∀ j, j < l1 → Z2 i ≠ Z1 j

/-- What zzMeetDomain answers, if true. -/
def DomRet (n : Nat) (L : Nat → Nat) (Z : Nat → Nat → Int) (l1 : Nat) (Z1 : Nat → Int) (l2 : Nat) (Z2 : Nat → Int) (l3 : Nat) (Z3 : Nat → Int) (e : Ending) : Prop :=
  ∃ r, e = .returned (.bool r) ∧ (r = true → Dom n L Z l1 Z1 l2 Z2 l3 Z3)

/-- The nodes' roles: a row of bytes at block N. -/
def Roles (w wr : World) (n : Nat) (ρ : Nat → Int) : Prop := wr.rowIs w.heap.size 5 n (fun i => .int .u8 (ρ i)) ∧ Below w.heap.size w wr

theorem Roles.step {w wr : World} {n : Nat} {ρ : Nat → Int} (h : Roles w wr n ρ) (v : Nat) (c : Int) :
    Roles w (wr.setCell ⟨w.heap.size, v, none⟩ (.int .u8 c)) n (fun i => if i = v then c else ρ i) := by
  refine ⟨(h.1.set v _).congr fun i _ => ?_, h.2.setCell (Nat.le_refl _) _⟩
  by_cases e : i = v
  · simp [e]
  · simp [e]

set_option maxRecDepth 20000 in
set_option maxHeartbeats 2000000 in
theorem domain_any (ai a1 a2 a3 : Option Addr) (n ci l1 c1 l2 c2 l3 c3 : Nat) (lo hi : Nat) (A : Nat → Option Addr) (L C : Nat → Nat) (Z : Nat → Nat → Int) (Z1 Z2 Z3 : Nat → Int) (w : World)
    (hn : n ≤ 4096) (h1 : l1 ≤ 65536) (h2 : l2 ≤ 65536) (h3 : l3 ≤ 65536) (hL : ∀ v, v < n → L v ≤ 131072) (hhi : hi ≤ w.heap.size)
    (hr : IRows w lo hi ai n A L C Z) (r1 : IRow w lo hi a1 l1 Z1) (r2 : IRow w lo hi a2 l2 Z2) (r3 : IRow w lo hi a3 l3 Z3) :
    Calls Try.prog 26 #[.slice ai n ci, .slice a1 l1 c1, .slice a2 l2 c2, .slice a3 l3 c3] w fun e w' => DomRet n L Z l1 Z1 l2 Z2 l3 Z3 e ∧ Below w.heap.size w w' := by
  have hmk := run_make_row' (P := Try.prog) 22 5 (.int .u8 0) 1 Try.underlying22 Try.info5 rfl .i64 .i64 n (by omega) (by omega)
  have HR := hidden hr
  have HL := hidden hL
  have R1 := hidden r1
  have R2 := hidden r2
  have R3 := hidden r3
  clear hr hL r1 r2 r3
  go_enter Try.func26, Try.ntmps26
  go_wp2
  go_loop [10, 11] (fun v _ => ∃ k : Nat, k ≤ n ∧ v = .int .i64 k ∧ ∀ v', v' < k → ∀ i, i < L v' → 0 ≤ Z v' i ∧ Z v' i < n) (fun v _ => n - (intOf v).toNat)
  case atStart => exact ⟨0, by omega, rfl, fun v' h => absurd h (Nat.not_lt_zero _)⟩
  case round =>
    obtain ⟨k, hk, rfl, hin⟩ := hrel
    have HIN := hidden hin
    clear hin
    by_cases hlt : k < n
    · rcases HR.out with h0 | ⟨b, o, rfl, _, hb, hc⟩
      · omega
      · obtain ⟨d1, d2, d3, d4⟩ := hc k hlt
        have d5 := HL.out k hlt
        have D4 := hidden d4
        clear hc d2 d3 d4
        go_wp2
        go_loop [11] (fun i => ∃ j : Nat, j ≤ L k ∧ i = .int .i64 j ∧ ∀ i, i < j → 0 ≤ Z k i ∧ Z k i < n) (fun i => L k - (intOf i).toNat)
        case atStart => exact ⟨0, by omega, rfl, fun i h => absurd h (Nat.not_lt_zero _)⟩
        case round =>
          obtain ⟨j, hj, rfl, hjn⟩ := hrel
          have HJ := hidden hjn
          clear hjn
          by_cases hjl : j < L k
          · rcases D4.out with h0 | ⟨rb, ro, hA, _, _, hcell⟩
            · omega
            · have e1 := hcell j hjl
              rw [hA] at d1
              clear hcell
              by_cases q1 : Z k j < 0
              · go_wp2
                go_ret
                exact ⟨⟨false, rfl, fun h => by cases h⟩, Below.refl _ _⟩
              · by_cases q2 : (n : Int) ≤ Z k j
                · go_wp2
                  go_ret
                  exact ⟨⟨false, rfl, fun h => by cases h⟩, Below.refl _ _⟩
                · go_wp2
                  go_round
                  case rel => exact ⟨j + 1, by omega, by go_num, fun i hi => by
                    by_cases e : i = j
                    · subst e; omega
                    · exact HJ.out i (by omega)⟩
                  case measure => simp [intOf]; omega
          · go_wp2
            go_round
            case rel => exact ⟨k + 1, by omega, by go_num, fun v' hv' => by
              by_cases e : v' = k
              · subst e; exact fun i hi => HJ.out i (by omega)
              · exact HIN.out v' (by omega)⟩
            case measure => simp [intOf]; omega
    · have HIN2 : Hid (∀ v', v' < n → ∀ i, i < L v' → 0 ≤ Z v' i ∧ Z v' i < n) := fun v' hv' => HIN.out v' (by omega)
      clear HR HL HIN
      go_wp2
      go_loopw [13, 14] (fun i _ wr => ∃ (k : Nat) (ρ : Nat → Int), k ≤ l3 ∧ i = .int .i64 k ∧ Roles w wr n ρ ∧ ∀ j, j < k → (0 ≤ Z3 j ∧ Z3 j < n) ∧ ρ (Z3 j).toNat = 3) (fun i _ _ => l3 - (intOf i).toNat)
      case atStart => exact ⟨0, fun _ => 0, by omega, rfl, ⟨World.rowIs_made w _ _ _, (Below.refl _ _).alloc (Nat.le_refl _) _⟩, fun j h => absurd h (Nat.not_lt_zero _)⟩
      case round =>
        obtain ⟨k, ρ, hk, rfl, hρ, hm⟩ := hrel
        have HM3 := hidden hm
        have HRO := hidden hρ
        have BEL := hidden hρ.2
        clear hm hρ
        by_cases hlt : k < l3
        · rcases R3.out with h0 | ⟨b, o, rfl, _, hb, hc⟩
          · omega
          · have d1 : wr.cell? ⟨b, o + k, none⟩ = some (.int .i64 (Z3 k)) := by rw [BEL.out.cell (p := ⟨b, o + k, none⟩) (show b < w.heap.size by omega)]; exact hc k hlt
            clear hc
            by_cases q1 : Z3 k < 0
            · go_wp2
              go_ret
              exact ⟨⟨false, rfl, fun h => by cases h⟩, BEL.out⟩
            · by_cases q2 : (n : Int) ≤ Z3 k
              · go_wp2
                go_ret
                exact ⟨⟨false, rfl, fun h => by cases h⟩, BEL.out⟩
              · obtain ⟨v, hv⟩ := Int.eq_ofNat_of_zero_le (show 0 ≤ Z3 k by omega)
                have hvn : v < n := by omega
                have hvk := hidden hv
                rw [hv] at d1
                have x1 := HRO.out.1.cell hvn
                have x2 := HRO.out.1.frozen v
                clear q1 q2 hv
                go_wp2
                go_roundw
                case rel => exact ⟨k + 1, _, by omega, by go_num, HRO.out.step v 3, fun j hj => by
                  by_cases e : j = k
                  · subst e; rw [hvk.out]; exact ⟨by omega, by simp⟩
                  · have := HM3.out j (by omega)
                    refine ⟨this.1, ?_⟩
                    split
                    · rfl
                    · exact this.2⟩
                case measure => simp [intOf]; omega
        · have HM3' : Hid (∀ j, j < l3 → (0 ≤ Z3 j ∧ Z3 j < n) ∧ ρ (Z3 j).toNat = 3) := fun j hj => HM3.out j (by omega)
          clear HM3 R3
          go_wp2
          go_loopw [15, 16] (fun i _ w1 => ∃ (k : Nat) (ρ : Nat → Int), k ≤ l1 ∧ i = .int .i64 k ∧ Roles w w1 n ρ ∧ (∀ j, j < l3 → (0 ≤ Z3 j ∧ Z3 j < n) ∧ ρ (Z3 j).toNat = 3) ∧ ∀ j, j < k → (0 ≤ Z1 j ∧ Z1 j < n) ∧ ρ (Z1 j).toNat = 1) (fun i _ _ => l1 - (intOf i).toNat)
          case atStart => exact ⟨0, ρ, by omega, rfl, HRO.out, HM3'.out, fun j h => absurd h (Nat.not_lt_zero _)⟩
          case round =>
            obtain ⟨k, ρ, hk, rfl, hρ, hm3, hm⟩ := hrel
            have HM3 := hidden hm3
            have HM1 := hidden hm
            have HRO := hidden hρ
            have BEL := hidden hρ.2
            clear hm3 hm hρ
            by_cases hlt : k < l1
            · rcases R1.out with h0 | ⟨b, o, rfl, _, hb, hc⟩
              · omega
              · have d1 : wr.cell? ⟨b, o + k, none⟩ = some (.int .i64 (Z1 k)) := by rw [BEL.out.cell (p := ⟨b, o + k, none⟩) (show b < w.heap.size by omega)]; exact hc k hlt
                clear hc
                by_cases q1 : Z1 k < 0
                · go_wp2
                  go_ret
                  exact ⟨⟨false, rfl, fun h => by cases h⟩, BEL.out⟩
                · by_cases q2 : (n : Int) ≤ Z1 k
                  · go_wp2
                    go_ret
                    exact ⟨⟨false, rfl, fun h => by cases h⟩, BEL.out⟩
                  · obtain ⟨v, hv⟩ := Int.eq_ofNat_of_zero_le (show 0 ≤ Z1 k by omega)
                    have hvn : v < n := by omega
                    have hvk := hidden hv
                    rw [hv] at d1
                    have x1 := HRO.out.1.cell hvn
                    have x2 := HRO.out.1.frozen v
                    clear q1 q2 hv
                    by_cases q3 : ρ v = 3
                    · have q3' : (ρ v == 3) = true := beq_iff_eq.2 q3
                      clear q3
                      go_wp2
                      go_ret
                      exact ⟨⟨false, rfl, fun h => by cases h⟩, BEL.out⟩
                    · have q3' : (ρ v == 3) = false := beq_eq_false_iff_ne.2 q3
                      have Q3 := hidden q3
                      clear q3
                      go_wp2
                      go_roundw
                      case rel =>
                        refine ⟨k + 1, _, by omega, by go_num, HRO.out.step v 1, fun j hj => ?_, fun j hj => ?_⟩
                        · have := HM3.out j hj
                          refine ⟨this.1, ?_⟩
                          rw [if_neg (fun e => Q3.out (by rw [← e]; exact this.2))]
                          exact this.2
                        · by_cases e : j = k
                          · subst e; rw [hvk.out]; exact ⟨by omega, by simp⟩
                          · have := HM1.out j (by omega)
                            refine ⟨this.1, ?_⟩
                            split
                            · rfl
                            · exact this.2
                      case measure => simp [intOf]; omega
            · have HM1' : Hid (∀ j, j < l1 → (0 ≤ Z1 j ∧ Z1 j < n) ∧ ρ (Z1 j).toNat = 1) := fun j hj => HM1.out j (by omega)
              clear HM1 R1 HM3'
              go_wp2
              go_loopw [17, 18] (fun i _ w1 => ∃ (k : Nat) (ρ : Nat → Int), k ≤ l2 ∧ i = .int .i64 k ∧ Roles w w1 n ρ ∧ (∀ j, j < l3 → (0 ≤ Z3 j ∧ Z3 j < n) ∧ ρ (Z3 j).toNat = 3) ∧ (∀ j, j < l1 → (0 ≤ Z1 j ∧ Z1 j < n) ∧ ρ (Z1 j).toNat = 1) ∧
                ∀ j, j < k → (0 ≤ Z2 j ∧ Z2 j < n) ∧ (∀ i, i < l3 → Z2 j ≠ Z3 i) ∧ ∀ i, i < l1 → Z2 j ≠ Z1 i) (fun i _ _ => l2 - (intOf i).toNat)
              case atStart => exact ⟨0, ρ, by omega, rfl, HRO.out, HM3.out, HM1'.out, fun j h => absurd h (Nat.not_lt_zero _)⟩
              case round =>
                obtain ⟨k, ρ, hk, rfl, hρ, hm3, hm1, hm⟩ := hrel
                have HM3 := hidden hm3
                have HM1 := hidden hm1
                have HM2 := hidden hm
                have HRO := hidden hρ
                have BEL := hidden hρ.2
                clear hm3 hm1 hm hρ
                by_cases hlt : k < l2
                · rcases R2.out with h0 | ⟨b, o, rfl, _, hb, hc⟩
                  · omega
                  · have d1 : wr.cell? ⟨b, o + k, none⟩ = some (.int .i64 (Z2 k)) := by rw [BEL.out.cell (p := ⟨b, o + k, none⟩) (show b < w.heap.size by omega)]; exact hc k hlt
                    clear hc
                    by_cases q1 : Z2 k < 0
                    · go_wp2
                      go_ret
                      exact ⟨⟨false, rfl, fun h => by cases h⟩, BEL.out⟩
                    · by_cases q2 : (n : Int) ≤ Z2 k
                      · go_wp2
                        go_ret
                        exact ⟨⟨false, rfl, fun h => by cases h⟩, BEL.out⟩
                      · obtain ⟨v, hv⟩ := Int.eq_ofNat_of_zero_le (show 0 ≤ Z2 k by omega)
                        have hvn : v < n := by omega
                        have hvk := hidden hv
                        rw [hv] at d1
                        have x1 := HRO.out.1.cell hvn
                        have x2 := HRO.out.1.frozen v
                        clear q1 q2 hv
                        by_cases q3 : ρ v = 3
                        · have q3' : (ρ v == 3) = true := beq_iff_eq.2 q3
                          clear q3
                          go_wp2
                          go_ret
                          exact ⟨⟨false, rfl, fun h => by cases h⟩, BEL.out⟩
                        · have q3' : (ρ v == 3) = false := beq_eq_false_iff_ne.2 q3
                          have Q3 := hidden q3
                          clear q3
                          by_cases q4 : ρ v = 1
                          · have q4' : (ρ v == 1) = true := beq_iff_eq.2 q4
                            clear q4
                            go_wp2
                            go_ret
                            exact ⟨⟨false, rfl, fun h => by cases h⟩, BEL.out⟩
                          · have q4' : (ρ v == 1) = false := beq_eq_false_iff_ne.2 q4
                            have Q4 := hidden q4
                            clear q4
                            go_wp2
                            go_roundw
                            case rel =>
                              refine ⟨k + 1, _, by omega, by go_num, HRO.out.step v 2, fun j hj => ?_, fun j hj => ?_, fun j hj => ?_⟩
                              · have := HM3.out j hj
                                refine ⟨this.1, ?_⟩
                                rw [if_neg (fun e => Q3.out (by rw [← e]; exact this.2))]
                                exact this.2
                              · have := HM1.out j hj
                                refine ⟨this.1, ?_⟩
                                rw [if_neg (fun e => Q4.out (by rw [← e]; exact this.2))]
                                exact this.2
                              · by_cases e : j = k
                                · subst e
                                  rw [hvk.out]
                                  refine ⟨by omega, fun i hi e => ?_, fun i hi e => ?_⟩
                                  · have := (HM3.out i hi).2
                                    rw [← e] at this
                                    exact Q3.out this
                                  · have := (HM1.out i hi).2
                                    rw [← e] at this
                                    exact Q4.out this
                                · exact HM2.out j (by omega)
                            case measure => simp [intOf]; omega
                · have hdom : Dom n L Z l1 Z1 l2 Z2 l3 Z3 := by
                    refine ⟨HIN2.out, fun i hi => (HM1.out i hi).1, fun i hi => (HM2.out i (by omega)).1, fun i hi => (HM3.out i hi).1, fun i hi j hj e => ?_, fun i hi => (HM2.out i (by omega)).2.1, fun i hi => (HM2.out i (by omega)).2.2⟩
                    have g1 := (HM1.out i hi).2
                    have g3 := (HM3.out j hj).2
                    rw [e, g3] at g1
                    omega
                  have HD := hidden hdom
                  clear hdom HM1 HM2 HM3 HIN2 HM1' R2
                  go_wp2
                  go_ret
                  exact ⟨⟨true, rfl, fun _ => HD.out⟩, BEL.out⟩

end Go.Proofs.Qxb6604796a
