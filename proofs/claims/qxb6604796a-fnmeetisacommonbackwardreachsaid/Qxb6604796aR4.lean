/-
  THE LAW 'FnMeetIsACommonBackwardReach': its walk.
-/
import Derived.Test.Qxb6604796aM7
import Derived.Test.Qxb6604796aR3
namespace Go.Proofs.Qxb6604796a
open Go.RowKit Mt

set_option maxRecDepth 100000 in
set_option maxHeartbeats 4000000 in
theorem law7 (hm : MeetSaid) (ai a1 a2 a3 : Option Addr) (n ci l1 c1 l2 c2 l3 c3 : Nat)  (A : Nat → Option Addr) (L C : Nat → Nat) (Z : Nat → Nat → Int) (Z1 Z2 Z3 : Nat → Int) (w : World)
    (hn : n ≤ maxLen) (h1 : l1 ≤ maxLen) (h2 : l2 ≤ maxLen) (h3 : l3 ≤ maxLen) (hr : IRows w 0 w.heap.size ai n A L C Z) (r1 : IRow w 0 w.heap.size a1 l1 Z1) (r2 : IRow w 0 w.heap.size a2 l2 Z2) (r3 : IRow w 0 w.heap.size a3 l3 Z3) :
    Calls Try.prog 7 #[.slice ai n ci, .slice a1 l1 c1, .slice a2 l2 c2, .slice a3 l3 c3 ] w fun e w' => e = .returned (.bool true) ∧ Below w.heap.size w w' := by
  have HB := hidden (bytes24 ai a1 a2 a3 n ci l1 c1 l2 c2 l3 c3 0 w.heap.size A L C Z w hn h1 h2 h3 hr)
  have HM := hidden hm
  have HR := hidden hr
  have R1 := hidden r1
  have R2 := hidden r2
  have R3 := hidden r3
  unfold maxLen at hn h1 h2 h3
  clear hr r1 r2 r3 hm
  by_cases hsm : n ≤ 4096 ∧ l1 ≤ 65536 ∧ l2 ≤ 65536 ∧ l3 ≤ 65536
  · obtain ⟨m0, m1, m2, m3⟩ := hsm
    have k0 : (n : Int) ≤ 4096 := by omega
    have k1 : (l1 : Int) ≤ 65536 := by omega
    have k2 : (l2 : Int) ≤ 65536 := by omega
    have k3 : (l3 : Int) ≤ 65536 := by omega
    have HS := hidden (meetBytes ai a1 a2 a3 n ci l1 c1 l2 c2 l3 c3 0 w.heap.size A L C Z w m0 m1 m2 m3 HR.out)
    clear hn h1 h2 h3
    go_enter Try.func7, Try.ntmps7
    go_wp2_with fail
    refine HB.out.mono ?_
    rintro e w' ⟨⟨r, rfl⟩, rfl⟩
    cases r
    · go_wp2
      go_ret
      exact ⟨rfl, Below.refl _ _⟩
    go_wp2_with fail
    refine HS.out.mono ?_
    rintro e w' ⟨⟨r, rfl, hsz⟩, rfl⟩
    by_cases hr : r ≤ 1048576
    · have HL := hidden (hsz hr)
      have HD := hidden (domain_any ai a1 a2 a3 n ci l1 c1 l2 c2 l3 c3 0 w'.heap.size A L C Z Z1 Z2 Z3 w' m0 m1 m2 m3 (hsz hr) (Nat.le_refl _) HR.out R1.out R2.out R3.out)
      clear hsz HB HS
      go_wp2_with fail
      refine HD.out.mono ?_
      rintro e w1 ⟨⟨r2, rfl, hdom⟩, hbel⟩
      have BEL := hidden hbel
      clear hbel HD
      cases r2
      · go_wp2
        go_ret
        exact ⟨rfl, BEL.out⟩
      have DOM := hidden (hdom rfl)
      clear hdom
      have hmk1 := run_make_row' (P := Try.prog) 26 3 (.int .i64 0) 8 Try.underlying26 Try.info3 rfl .i64 .i64 l1 (by omega) (by omega)
      have hmk2 := run_make_row' (P := Try.prog) 26 3 (.int .i64 0) 8 Try.underlying26 Try.info3 rfl .i64 .i64 l2 (by omega) (by omega)
      have hmk3 := run_make_row' (P := Try.prog) 26 3 (.int .i64 0) 8 Try.underlying26 Try.info3 rfl .i64 .i64 l3 (by omega) (by omega)
      go_upto_if 51 with fail
      go_cut [1] (fun v wx => Copied w' l1 Z1 v wx ∧ Below w1.heap.size w1 wx)
      case first =>
        have rr := (R1.out.below BEL.out (Nat.le_refl _)).wide (Nat.le_refl _) BEL.out.size
        have RR := hidden rr
        clear rr
        cases a1 with
        | none =>
          go_wp2
          go_meet
          case rel => exact ⟨⟨none, c1, rfl, RR.out, BEL.out⟩, Below.refl _ _⟩
        | some ad =>
          go_wp2_with (refine wpList_copy_ints (w0 := w1) (by rfl) (.tmp 55) (.tmp 56) (by rfl) (some ad) l1 c1 (by rfl) (by rfl) 0 w1.heap.size Z1 (Nat.le_refl _) RR.out ?_; intro w9 hb9 hlt9 hr9)
          go_meet
          case rel => exact ⟨⟨_, _, rfl, hr9.wide (Nat.zero_le _) (by omega), BEL.out.trans (hb9.mono BEL.out.size)⟩, hb9⟩
      case rest =>
        obtain ⟨⟨b1, d1, rfl, q1, hb1⟩, hgo⟩ := hcut
        obtain ⟨wA, rfl⟩ : ∃ wA : World, wA = wc := ⟨_, rfl⟩
        have Q1 := hidden q1
        have BEL2 := hidden hb1
        clear q1 hb1 BEL hgo
        go_upto_if 60 with fail
        go_cut [2] (fun v wx => Copied w' l2 Z2 v wx ∧ Below wA.heap.size wA wx)
        case first =>
          have rr := (R2.out.below BEL2.out (Nat.le_refl _)).wide (Nat.le_refl _) BEL2.out.size
          have RR := hidden rr
          clear rr
          cases a2 with
          | none =>
            go_wp2
            go_meet
            case rel => exact ⟨⟨none, c2, rfl, RR.out, BEL2.out⟩, Below.refl _ _⟩
          | some ad =>
            go_wp2_with (refine wpList_copy_ints (w0 := wA) (by rfl) (.tmp 64) (.tmp 65) (by rfl) (some ad) l2 c2 (by rfl) (by rfl) 0 wA.heap.size Z2 (Nat.le_refl _) RR.out ?_; intro w9 hb9 hlt9 hr9)
            go_meet
            case rel => exact ⟨⟨_, _, rfl, hr9.wide (Nat.zero_le _) (by omega), BEL2.out.trans (hb9.mono BEL2.out.size)⟩, hb9⟩
        case rest =>
          obtain ⟨⟨b2, d2, rfl, q2, hb2⟩, hgo⟩ := hcut
          obtain ⟨wB, rfl⟩ : ∃ wB : World, wB = wc := ⟨_, rfl⟩
          have Q2 := hidden q2
          have Q1B := hidden (Q1.out.grow hgo (Nat.le_refl _) hgo.size (Nat.le_refl _))
          have BEL3 := hidden hb2
          clear q2 hb2 hgo Q1
          go_upto_if 69 with fail
          go_cut [3] (fun v wx => Copied w' l3 Z3 v wx ∧ Below wB.heap.size wB wx)
          case first =>
            have rr := (R3.out.below BEL3.out (Nat.le_refl _)).wide (Nat.le_refl _) BEL3.out.size
            have RR := hidden rr
            clear rr
            cases a3 with
            | none =>
              go_wp2
              go_meet
              case rel => exact ⟨⟨none, c3, rfl, RR.out, BEL3.out⟩, Below.refl _ _⟩
            | some ad =>
              go_wp2_with (refine wpList_copy_ints (w0 := wB) (by rfl) (.tmp 73) (.tmp 74) (by rfl) (some ad) l3 c3 (by rfl) (by rfl) 0 wB.heap.size Z3 (Nat.le_refl _) RR.out ?_; intro w9 hb9 hlt9 hr9)
              go_meet
              case rel => exact ⟨⟨_, _, rfl, hr9.wide (Nat.zero_le _) (by omega), BEL3.out.trans (hb9.mono BEL3.out.size)⟩, hb9⟩
          case rest =>
            obtain ⟨⟨b3, d3, rfl, q3, hb3⟩, hgo⟩ := hcut
            obtain ⟨wD, rfl⟩ : ∃ wD : World, wD = wc := ⟨_, rfl⟩
            have Q3 := hidden q3
            have Q1C := hidden (Q1B.out.grow hgo (Nat.le_refl _) hgo.size (Nat.le_refl _))
            have Q2C := hidden (Q2.out.grow hgo (Nat.le_refl _) hgo.size (Nat.le_refl _))
            have BEL4 := hidden hb3
            clear q3 hb3 hgo Q1B Q2 R1 R2 R3 hmk1 hmk2 hmk3
            have HC := hidden (rows_any ai n ci A L C Z 0 w'.heap.size wD m0 HL.out BEL4.out.size (HR.out.below BEL4.out (Nat.le_refl _)))
            go_wp2_with fail
            refine HC.out.mono ?_
            rintro e wE ⟨ae, Ae, rfl, hbe, hre⟩
            have RE := hidden (hre.wide (Nat.zero_le _) (Nat.le_refl _))
            have E1 := hidden (Q1C.out.grow hbe (Nat.le_refl _) hbe.size (Nat.le_refl _))
            have E2 := hidden (Q2C.out.grow hbe (Nat.le_refl _) hbe.size (Nat.le_refl _))
            have E3 := hidden (Q3.out.grow hbe (Nat.le_refl _) hbe.size (Nat.le_refl _))
            have BELE := hidden (BEL4.out.trans (hbe.mono BEL4.out.size))
            clear hbe hre Q1C Q2C Q3 HC BEL4 HR
            go_wp2_with fail
            refine (new_any ae n wE m0).mono ?_
            rintro e wG ⟨R, A6, rfl, fr⟩
            have ZM := hidden (zmeet HM.out wE R A6 ae b1 b2 b3 n l1 d1 l2 d2 l3 d3 0 wE.heap.size Ae L L Z Z1 Z2 Z3 wG DOM.out m0 m1 m2 (by omega) HL.out (Nat.le_refl _) fr RE.out E1.out E2.out E3.out)
            clear fr
            go_wp2_with fail
            refine ZM.out.mono ?_
            rintro e wH ⟨⟨rx, rfl, hrx⟩, hbH⟩
            have RH := hidden ((RE.out.below hbH (Nat.le_refl _)).wide (Nat.le_refl _) hbH.size)
            have G1 := hidden (E1.out.grow hbH (Nat.le_refl _) hbH.size (Nat.le_refl _))
            have G2 := hidden (E2.out.grow hbH (Nat.le_refl _) hbH.size (Nat.le_refl _))
            have G3 := hidden (E3.out.grow hbH (Nat.le_refl _) hbH.size (Nat.le_refl _))
            have BH := hidden (BELE.out.trans (hbH.mono BELE.out.size))
            have HRX := hidden hrx
            clear hbH hrx ZM RE E1 E2 E3 BELE
            have MD := hidden (model_any ae b1 b2 b3 n n l1 d1 l2 d2 l3 d3 0 wH.heap.size Ae L L Z Z1 Z2 Z3 wH DOM.out m0 m1 m2 m3 HL.out (Nat.le_refl _) RH.out G1.out G2.out G3.out)
            clear RH G1 G2 G3
            go_wp2_with fail
            refine MD.out.mono ?_
            rintro e wJ ⟨⟨ry, rfl, hry⟩, hbJ⟩
            have BJ := hidden (BH.out.trans (hbJ.mono BH.out.size))
            have FIN : ry = rx := Bool.eq_iff_iff.2 (hry.trans HRX.out.symm)
            clear hry hbJ MD HRX
            subst FIN
            cases ry
            all_goals
              go_wp2
              go_ret
              exact ⟨rfl, BJ.out⟩
    · clear hsz
      go_wp2_with fail
      go_ret
      exact ⟨rfl, Below.refl _ _⟩
  · have four : (4096 : Int) < n ∨ ((n : Int) ≤ 4096 ∧ (65536 : Int) < l1) ∨ ((n : Int) ≤ 4096 ∧ (l1 : Int) ≤ 65536 ∧ (65536 : Int) < l2) ∨ ((n : Int) ≤ 4096 ∧ (l1 : Int) ≤ 65536 ∧ (l2 : Int) ≤ 65536 ∧ (65536 : Int) < l3) := by omega
    clear hsm
    rcases four with f0 | ⟨f0, f1⟩ | ⟨f0, f1, f2⟩ | ⟨f0, f1, f2, f3⟩
    all_goals
      go_enter Try.func7, Try.ntmps7
      go_wp2_with fail
      refine HB.out.mono ?_
      rintro e w' ⟨⟨r, rfl⟩, rfl⟩
      cases r
      · go_wp2
        go_ret
        exact ⟨rfl, Below.refl _ _⟩
      · go_wp2_with fail
        go_ret
        exact ⟨rfl, Below.refl _ _⟩

end Go.Proofs.Qxb6604796a
