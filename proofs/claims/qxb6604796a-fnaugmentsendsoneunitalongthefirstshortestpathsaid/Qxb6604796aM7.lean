/-
  THE LAW 'FnMeetNeverGainsByMoreCrashes': its walk.
-/
import Derived.Test.Qxb6604796aM6
import Derived.Deep.DeepCutAuto
import Derived.Deep.CutBlock
namespace Go.Proofs.Qxb6604796a
open Go.RowKit Mt

/-- A row as it stands in a later world. -/
def Copied (w : World) (l : Nat) (Z : Nat → Int) (v : Value) (wx : World) : Prop := ∃ a c, v = .slice a l c ∧ IRow wx 0 wx.heap.size a l Z ∧ Below w.heap.size w wx

theorem IRow.grow {w w' : World} {N lo hi : Nat} {a : Option Addr} {l : Nat} {Z : Nat → Int} (h : IRow w lo hi a l Z) (hb : Below N w w') (hN : hi ≤ N) (hw : w.heap.size ≤ w'.heap.size) (hh : hi ≤ w.heap.size) : IRow w' lo w'.heap.size a l Z :=
  (h.below hb hN).wide (Nat.le_refl _) (by omega)

theorem dom_more {n : Nat} {L : Nat → Nat} {Z : Nat → Nat → Int} {l1 l2 l3 : Nat} {Z1 Z2 Z3 : Nat → Int} (d : Dom n L Z l1 Z1 l2 Z2 l3 Z3) {x : Int} (h0 : 0 ≤ x) (hn : x < n) (h1 : ∀ i, i < l1 → Z1 i ≠ x) (h2 : ∀ i, i < l2 → Z2 i ≠ x) :
    Dom n L Z l1 Z1 l2 Z2 (l3 + 1) (fun i => if i = l3 then x else Z3 i) := by
  refine ⟨d.rows, d.one, d.other, fun i hi => ?_, fun i hi j hj => ?_, fun i hi j hj => ?_, d.otherOne⟩
  · split
    · exact ⟨h0, hn⟩
    · exact d.crashed i (by omega)
  · split
    · exact h1 i hi
    · exact d.oneCrashed i hi j (by omega)
  · split
    · exact h2 i hi
    · exact d.otherCrashed i hi j (by omega)

theorem pk_more {l3 : Nat} {Z3 : Nat → Int} {x : Int} : ∀ u, Pk Z3 l3 u → Pk (fun i => if i = l3 then x else Z3 i) (l3 + 1) u := by
  rintro u ⟨i, hi, e⟩
  exact ⟨i, by omega, by dsimp only; rw [if_neg (by omega)]; exact e⟩

theorem more_row {w : World} {N l : Nat} {Z : Nat → Int} {f : Nat → Value} {x : Int} (h : w.rowIs N 3 (l + 1) (fun j => if j = l then .int .i64 x else f j)) (hf : ∀ k, k < l → f k = .int .i64 (Z k)) :
    IRow w N (N + 1) (some ⟨N, 0, none⟩) (l + 1) (fun i => if i = l then x else Z i) :=
  row_ints h fun k hk => by
    by_cases e : k = l
    · simp [e]
    · simp only [e, if_false]; exact hf k (by omega)

set_option maxRecDepth 100000 in
set_option maxHeartbeats 4000000 in
theorem law8 (hm : MeetSaid) (ai a1 a2 a3 : Option Addr) (n ci l1 c1 l2 c2 l3 c3 : Nat) (x : Int) (A : Nat → Option Addr) (L C : Nat → Nat) (Z : Nat → Nat → Int) (Z1 Z2 Z3 : Nat → Int) (w : World)
    (hn : n ≤ maxLen) (h1 : l1 ≤ maxLen) (h2 : l2 ≤ maxLen) (h3 : l3 ≤ maxLen) (hr : IRows w 0 w.heap.size ai n A L C Z) (r1 : IRow w 0 w.heap.size a1 l1 Z1) (r2 : IRow w 0 w.heap.size a2 l2 Z2) (r3 : IRow w 0 w.heap.size a3 l3 Z3) :
    Calls Try.prog 8 #[.slice ai n ci, .slice a1 l1 c1, .slice a2 l2 c2, .slice a3 l3 c3, .int .i64 x] w fun e w' => e = .returned (.bool true) ∧ Below w.heap.size w w' := by
  have HB := hidden (bytes30 ai a1 a2 a3 n ci l1 c1 l2 c2 l3 c3 x 0 w.heap.size A L C Z w hn h1 h2 h3 hr)
  have HM := hidden hm
  have HR := hidden hr
  have R1 := hidden r1
  have R2 := hidden r2
  have R3 := hidden r3
  unfold maxLen at hn h1 h2 h3
  clear hr r1 r2 r3 hm
  by_cases hsm : n ≤ 4096 ∧ l1 ≤ 65536 ∧ l2 ≤ 65536 ∧ l3 ≤ 65536
  · obtain ⟨m0, m1, m2, m3⟩ := hsm
    have k0 : (n : Int) ≤ 4096 := by omega
    have k1 : (l1 : Int) ≤ 65536 := by omega
    have k2 : (l2 : Int) ≤ 65536 := by omega
    have k3 : (l3 : Int) ≤ 65536 := by omega
    have HS := hidden (meetBytes ai a1 a2 a3 n ci l1 c1 l2 c2 l3 c3 0 w.heap.size A L C Z w m0 m1 m2 m3 HR.out)
    clear hn h1 h2 h3
    go_enter Try.func8, Try.ntmps8
    go_wp2_with fail
    refine HB.out.mono ?_
    rintro e w' ⟨⟨r, rfl⟩, rfl⟩
    cases r
    · go_wp2
      go_ret
      exact ⟨rfl, Below.refl _ _⟩
    go_wp2_with fail
    refine HS.out.mono ?_
    rintro e w' ⟨⟨r, rfl, hsz⟩, rfl⟩
    by_cases hr : r ≤ 1048576
    · have HL := hidden (hsz hr)
      have HD := hidden (domain_any ai a1 a2 a3 n ci l1 c1 l2 c2 l3 c3 0 w'.heap.size A L C Z Z1 Z2 Z3 w' m0 m1 m2 m3 (hsz hr) (Nat.le_refl _) HR.out R1.out R2.out R3.out)
      clear hsz HB HS
      go_wp2_with fail
      refine HD.out.mono ?_
      rintro e w1 ⟨⟨r2, rfl, hdom⟩, hbel⟩
      have BEL := hidden hbel
      clear hbel HD
      cases r2
      · go_wp2
        go_ret
        exact ⟨rfl, BEL.out⟩
      have DOM := hidden (hdom rfl)
      clear hdom
      by_cases hx : 0 ≤ x ∧ x < n
      · obtain ⟨x0, x1⟩ := hx
        have hmk1 := run_make_row' (P := Try.prog) 26 3 (.int .i64 0) 8 Try.underlying26 Try.info3 rfl .i64 .i64 l1 (by omega) (by omega)
        have hmk2 := run_make_row' (P := Try.prog) 26 3 (.int .i64 0) 8 Try.underlying26 Try.info3 rfl .i64 .i64 l2 (by omega) (by omega)
        have hmk3 := run_make_row' (P := Try.prog) 26 3 (.int .i64 0) 8 Try.underlying26 Try.info3 rfl .i64 .i64 l3 (by omega) (by omega)
        go_upto_if 66 with fail
        go_cut [1] (fun v wx => Copied w' l1 Z1 v wx ∧ Below w1.heap.size w1 wx)
        case first =>
          have rr := (R1.out.below BEL.out (Nat.le_refl _)).wide (Nat.le_refl _) BEL.out.size
          have RR := hidden rr
          clear rr
          cases a1 with
          | none =>
            go_wp2
            go_meet
            case rel => exact ⟨⟨none, c1, rfl, RR.out, BEL.out⟩, Below.refl _ _⟩
          | some ad =>
            go_wp2_with (refine wpList_copy_ints (w0 := w1) (by rfl) (.tmp 70) (.tmp 71) (by rfl) (some ad) l1 c1 (by rfl) (by rfl) 0 w1.heap.size Z1 (Nat.le_refl _) RR.out ?_; intro w9 hb9 hlt9 hr9)
            go_meet
            case rel => exact ⟨⟨_, _, rfl, hr9.wide (Nat.zero_le _) (by omega), BEL.out.trans (hb9.mono BEL.out.size)⟩, hb9⟩
        case rest =>
          obtain ⟨⟨b1, d1, rfl, q1, hb1⟩, hgo⟩ := hcut
          obtain ⟨wA, rfl⟩ : ∃ wA : World, wA = wc := ⟨_, rfl⟩
          have Q1 := hidden q1
          have BEL2 := hidden hb1
          clear q1 hb1 BEL hgo
          go_upto_if 75 with fail
          go_cut [2] (fun v wx => Copied w' l2 Z2 v wx ∧ Below wA.heap.size wA wx)
          case first =>
            have rr := (R2.out.below BEL2.out (Nat.le_refl _)).wide (Nat.le_refl _) BEL2.out.size
            have RR := hidden rr
            clear rr
            cases a2 with
            | none =>
              go_wp2
              go_meet
              case rel => exact ⟨⟨none, c2, rfl, RR.out, BEL2.out⟩, Below.refl _ _⟩
            | some ad =>
              go_wp2_with (refine wpList_copy_ints (w0 := wA) (by rfl) (.tmp 79) (.tmp 80) (by rfl) (some ad) l2 c2 (by rfl) (by rfl) 0 wA.heap.size Z2 (Nat.le_refl _) RR.out ?_; intro w9 hb9 hlt9 hr9)
              go_meet
              case rel => exact ⟨⟨_, _, rfl, hr9.wide (Nat.zero_le _) (by omega), BEL2.out.trans (hb9.mono BEL2.out.size)⟩, hb9⟩
          case rest =>
            obtain ⟨⟨b2, d2, rfl, q2, hb2⟩, hgo⟩ := hcut
            obtain ⟨wB, rfl⟩ : ∃ wB : World, wB = wc := ⟨_, rfl⟩
            have Q2 := hidden q2
            have Q1B := hidden (Q1.out.grow hgo (Nat.le_refl _) hgo.size (Nat.le_refl _))
            have BEL3 := hidden hb2
            clear q2 hb2 hgo Q1
            go_upto_if 84 with fail
            go_cut [3] (fun v wx => Copied w' l3 Z3 v wx ∧ Below wB.heap.size wB wx)
            case first =>
              have rr := (R3.out.below BEL3.out (Nat.le_refl _)).wide (Nat.le_refl _) BEL3.out.size
              have RR := hidden rr
              clear rr
              cases a3 with
              | none =>
                go_wp2
                go_meet
                case rel => exact ⟨⟨none, c3, rfl, RR.out, BEL3.out⟩, Below.refl _ _⟩
              | some ad =>
                go_wp2_with (refine wpList_copy_ints (w0 := wB) (by rfl) (.tmp 88) (.tmp 89) (by rfl) (some ad) l3 c3 (by rfl) (by rfl) 0 wB.heap.size Z3 (Nat.le_refl _) RR.out ?_; intro w9 hb9 hlt9 hr9)
                go_meet
                case rel => exact ⟨⟨_, _, rfl, hr9.wide (Nat.zero_le _) (by omega), BEL3.out.trans (hb9.mono BEL3.out.size)⟩, hb9⟩
            case rest =>
              obtain ⟨⟨b3, d3, rfl, q3, hb3⟩, hgo⟩ := hcut
              obtain ⟨wD, rfl⟩ : ∃ wD : World, wD = wc := ⟨_, rfl⟩
              have Q3 := hidden q3
              have Q1C := hidden (Q1B.out.grow hgo (Nat.le_refl _) hgo.size (Nat.le_refl _))
              have Q2C := hidden (Q2.out.grow hgo (Nat.le_refl _) hgo.size (Nat.le_refl _))
              have BEL4 := hidden hb3
              clear q3 hb3 hgo Q1B Q2 R1 R2 R3 hmk1 hmk2 hmk3
              go_wp2
              go_loop [14] (fun i => ∃ k : Nat, k ≤ l1 ∧ i = .int .i64 k ∧ ∀ j, j < k → Z1 j ≠ x) (fun i => l1 - (intOf i).toNat)
              case atStart => exact ⟨0, by omega, rfl, fun j h => absurd h (Nat.not_lt_zero _)⟩
              case round =>
                obtain ⟨k, hk, rfl, hno⟩ := hrel
                have NO1 := hidden hno
                clear hno
                by_cases hlt : k < l1
                · rcases Q1C.out with h0 | ⟨b, o, rfl, _, _, hc⟩
                  · omega
                  · have cv := hc k hlt
                    clear hc
                    by_cases e : Z1 k = x
                    · have eb : (Z1 k == x) = true := beq_iff_eq.2 e
                      clear e
                      go_wp2
                      go_ret
                      exact ⟨rfl, BEL4.out⟩
                    · have eb : (Z1 k == x) = false := beq_eq_false_iff_ne.2 e
                      have E := hidden e
                      clear e
                      go_wp2
                      go_round
                      case rel => exact ⟨k + 1, by omega, by go_num, fun j hj => by
                        by_cases e2 : j = k
                        · subst e2; exact E.out
                        · exact NO1.out j (by omega)⟩
                      case measure => simp [intOf]; omega
                · have e : l1 = k := by omega
                  subst e
                  go_wp2
                  go_loop [15] (fun i => ∃ k : Nat, k ≤ l2 ∧ i = .int .i64 k ∧ ∀ j, j < k → Z2 j ≠ x) (fun i => l2 - (intOf i).toNat)
                  case atStart => exact ⟨0, by omega, rfl, fun j h => absurd h (Nat.not_lt_zero _)⟩
                  case round =>
                    obtain ⟨k, hk2, rfl, hno⟩ := hrel
                    have NO2 := hidden hno
                    clear hno
                    by_cases hlt2 : k < l2
                    · rcases Q2C.out with h0 | ⟨b, o, rfl, _, _, hc⟩
                      · omega
                      · have cv := hc k hlt2
                        clear hc
                        by_cases e : Z2 k = x
                        · have eb : (Z2 k == x) = true := beq_iff_eq.2 e
                          clear e
                          go_wp2
                          go_ret
                          exact ⟨rfl, BEL4.out⟩
                        · have eb : (Z2 k == x) = false := beq_eq_false_iff_ne.2 e
                          have E := hidden e
                          clear e
                          go_wp2
                          go_round
                          case rel => exact ⟨k + 1, by omega, by go_num, fun j hj => by
                            by_cases e2 : j = k
                            · subst e2; exact E.out
                            · exact NO2.out j (by omega)⟩
                          case measure => simp [intOf]; omega
                    · have e : l2 = k := by omega
                      subst e
                      have DM := hidden (dom_more DOM.out x0 x1 NO1.out NO2.out)
                      have HC := hidden (rows_any ai n ci A L C Z 0 w'.heap.size wD m0 HL.out BEL4.out.size (HR.out.below BEL4.out (Nat.le_refl _)))
                      clear NO1 NO2
                      go_wp2_with fail
                      refine HC.out.mono ?_
                      rintro e wE ⟨ae, Ae, rfl, hbe, hre⟩
                      have RE := hidden (hre.wide (Nat.zero_le _) (Nat.le_refl _))
                      have E1 := hidden (Q1C.out.grow hbe (Nat.le_refl _) hbe.size (Nat.le_refl _))
                      have E2 := hidden (Q2C.out.grow hbe (Nat.le_refl _) hbe.size (Nat.le_refl _))
                      have E3 := hidden (Q3.out.grow hbe (Nat.le_refl _) hbe.size (Nat.le_refl _))
                      have BELE := hidden (BEL4.out.trans (hbe.mono BEL4.out.size))
                      have hmk := run_make_row' (P := Try.prog) 26 3 (.int .i64 0) 8 Try.underlying26 Try.info3 rfl .i64 .i64 (l3 + 1) (by omega) (by omega)
                      rw [show ((l3 + 1 : Nat) : Int) = (l3 : Int) + 1 by omega] at hmk
                      clear hbe hre Q1C Q2C Q3 HC BEL4 HR
                      go_wp2
                      go_loopw [17] (fun i wr => ∃ (k : Nat) (f : Nat → Value), k ≤ l3 ∧ i = .int .i64 k ∧ wr.rowIs wE.heap.size 3 (l3 + 1) f ∧ (∀ k', k' < k → f k' = .int .i64 (Z3 k')) ∧ Below wE.heap.size wE wr) (fun i _ => l3 - (intOf i).toNat)
                      case atStart => exact ⟨0, _, Nat.zero_le _, rfl, World.rowIs_made wE _ _ _, fun k' h => absurd h (Nat.not_lt_zero _), (Below.refl _ _).alloc (Nat.le_refl _) _⟩
                      case round =>
                        obtain ⟨k, f, hk3, rfl, hrow, hf, hbel⟩ := hrel
                        by_cases hlt : k < l3
                        · rcases E3.out with h0 | ⟨b, o, rfl, _, hb, hc⟩
                          · omega
                          · have c : wr.cell? ⟨b, o + k, none⟩ = some (.int .i64 (Z3 k)) := by rw [hbel.cell (p := ⟨b, o + k, none⟩) hb]; exact hc k hlt
                            have d := hrow.cell (i := k) (by omega)
                            have e := hrow.frozen k
                            have n1 : ¬ (wE.heap.size = b) := by omega
                            have n2 : ¬ (b = wE.heap.size) := by omega
                            have HRW := hidden hrow
                            have HFF := hidden hf
                            have HBL := hidden hbel
                            clear hc hrow hf hbel hmk
                            go_wp2
                            go_roundw
                            case rel => exact ⟨k + 1, _, by omega, by go_num, HRW.out.set k _, set_read HFF.out, HBL.out.setCell (Nat.le_refl _) _⟩
                            case measure => simp [intOf]; omega
                        · have e : l3 = k := by omega
                          subst e
                          have d := hrow.cell (i := l3) (by omega)
                          have e := hrow.frozen l3
                          have hrow2 := hrow.set l3 (.int .i64 x)
                          have RM := hidden (more_row hrow2 hf)
                          have BF := hidden (hbel.setCell (p := ⟨wE.heap.size, l3, none⟩) (Nat.le_refl _) (.int .i64 x))
                          have SZ : Hid (wE.heap.size + 1 ≤ (wr.setCell ⟨wE.heap.size, l3, none⟩ (.int .i64 x)).heap.size) := by have := hrow2.lt; exact this
                          clear hrow hf hrow2 hbel hmk
                          go_wp2_with fail
                          obtain ⟨wF, hwF⟩ : ∃ wF, wF = wr.setCell ⟨wE.heap.size, l3, none⟩ (.int .i64 x) := ⟨_, rfl⟩
                          rw [← hwF] at RM BF SZ ⊢
                          clear hwF
                          have RF := hidden ((RE.out.below BF.out (Nat.le_refl _)).wide (Nat.le_refl _) BF.out.size)
                          have F1 := hidden (E1.out.grow BF.out (Nat.le_refl _) BF.out.size (Nat.le_refl _))
                          have F2 := hidden (E2.out.grow BF.out (Nat.le_refl _) BF.out.size (Nat.le_refl _))
                          have F3 := hidden (E3.out.grow BF.out (Nat.le_refl _) BF.out.size (Nat.le_refl _))
                          have FM := hidden (RM.out.wide (Nat.zero_le _) SZ.out)
                          have BG := hidden (BELE.out.trans (BF.out.mono BELE.out.size))
                          clear RM BF SZ RE E1 E2 E3 BELE
                          refine (new_any ae n wF m0).mono ?_
                          rintro e wG ⟨R, A6, rfl, fr⟩
                          have ZM := hidden (zmeet HM.out wF R A6 ae b1 b2 (some ⟨wE.heap.size, 0, none⟩) n l1 d1 l2 d2 (l3 + 1) (l3 + 1) 0 wF.heap.size Ae L L Z Z1 Z2 (fun i => if i = l3 then x else Z3 i) wG DM.out m0 m1 m2 (by omega) HL.out (Nat.le_refl _) fr RF.out F1.out F2.out FM.out)
                          clear fr FM
                          go_wp2_with fail
                          refine ZM.out.mono ?_
                          rintro e wH ⟨⟨rx, rfl, hrx⟩, hbH⟩
                          have RH := hidden ((RF.out.below hbH (Nat.le_refl _)).wide (Nat.le_refl _) hbH.size)
                          have G1 := hidden (F1.out.grow hbH (Nat.le_refl _) hbH.size (Nat.le_refl _))
                          have G2 := hidden (F2.out.grow hbH (Nat.le_refl _) hbH.size (Nat.le_refl _))
                          have G3 := hidden (F3.out.grow hbH (Nat.le_refl _) hbH.size (Nat.le_refl _))
                          have BH := hidden (BG.out.trans (hbH.mono BG.out.size))
                          have HRX := hidden hrx
                          clear hbH hrx ZM RF F1 F2 F3 BG
                          go_wp2_with fail
                          refine (new_any ae n wH m0).mono ?_
                          rintro e wI ⟨R', A7, rfl, fr⟩
                          have ZM := hidden (zmeet HM.out wH R' A7 ae b1 b2 b3 n l1 d1 l2 d2 l3 d3 0 wH.heap.size Ae L L Z Z1 Z2 Z3 wI DOM.out m0 m1 m2 (by omega) HL.out (Nat.le_refl _) fr RH.out G1.out G2.out G3.out)
                          clear fr
                          go_wp2_with fail
                          refine ZM.out.mono ?_
                          rintro e wJ ⟨⟨ry, rfl, hry⟩, hbJ⟩
                          have BJ := hidden (BH.out.trans (hbJ.mono BH.out.size))
                          have FIN : rx = true → ry = true := fun h => hry.2 (meets_fewer pk_more (HRX.out.1 h))
                          clear hry hbJ ZM HRX
                          cases rx
                          · go_wp2
                            go_ret
                            exact ⟨rfl, BJ.out⟩
                          · obtain rfl := FIN rfl
                            clear FIN
                            go_wp2
                            go_ret
                            exact ⟨rfl, BJ.out⟩
      · by_cases x0 : x < 0
        · go_wp2
          go_ret
          exact ⟨rfl, BEL.out⟩
        · have x1 : (n : Int) ≤ x := by omega
          clear hx
          go_wp2
          go_ret
          exact ⟨rfl, BEL.out⟩
    · clear hsz
      go_wp2_with fail
      go_ret
      exact ⟨rfl, Below.refl _ _⟩
  · have four : (4096 : Int) < n ∨ ((n : Int) ≤ 4096 ∧ (65536 : Int) < l1) ∨ ((n : Int) ≤ 4096 ∧ (l1 : Int) ≤ 65536 ∧ (65536 : Int) < l2) ∨ ((n : Int) ≤ 4096 ∧ (l1 : Int) ≤ 65536 ∧ (l2 : Int) ≤ 65536 ∧ (65536 : Int) < l3) := by omega
    clear hsm
    rcases four with f0 | ⟨f0, f1⟩ | ⟨f0, f1, f2⟩ | ⟨f0, f1, f2, f3⟩
    all_goals
      go_enter Try.func8, Try.ntmps8
      go_wp2_with fail
      refine HB.out.mono ?_
      rintro e w' ⟨⟨r, rfl⟩, rfl⟩
      cases r
      · go_wp2
        go_ret
        exact ⟨rfl, Below.refl _ _⟩
      · go_wp2_with fail
        go_ret
        exact ⟨rfl, Below.refl _ _⟩

end Go.Proofs.Qxb6604796a
