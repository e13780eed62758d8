/-
  THE LAW 'FnAugmentSendsOneUnitAlongTheFirstShortestPath': its walk.
-/
import Derived.Test.Qxb6604796aFv
import Derived.Test.Qxb6604796aBd
namespace Go.Proofs.Qxb6604796a
open Go.RowKit Af
set_option linter.unusedVariables false

/-- The clone's block; one beyond, where there is none. -/
theorem Cap8.wb {N : Nat} {ga : Option Addr} {M Gb : Nat} {F : Nat → Int} {w : World} (h : Cap8 N ga M Gb F w) : ∃ Wb, N ≤ Wb ∧ (M = 0 ∨ ga = some ⟨Wb, 0, none⟩) ∧ (M = 0 ∨ (Wb < w.heap.size ∧ w.rowIs Wb 39 M (fun i => .int .i8 (caps F M i)))) := by
  by_cases e : M = 0
  · exact ⟨N, Nat.le_refl _, .inl e, .inl e⟩
  · have h1 := h.1.resolve_left e
    obtain ⟨h2, h3⟩ := h.2.resolve_left e
    exact ⟨Gb, h2, .inr h1, .inr ⟨h3.lt, h3⟩⟩

set_option maxRecDepth 100000 in
set_option maxHeartbeats 4000000 in
theorem law5 (at' ai al as' : Option Addr) (M ct n ci l1 c1 ls cs : Nat) (sink : Int) (A : Nat → Option Addr) (L C : Nat → Nat) (Z : Nat → Nat → Int) (T F S : Nat → Int) (w : World)
    (h0 : M ≤ maxLen) (hn : n ≤ maxLen) (h1 : l1 ≤ maxLen) (h2 : ls ≤ maxLen) (hF : ∀ a, a < l1 → -128 ≤ F a ∧ F a ≤ 127) (hr : IRows w 0 w.heap.size ai n A L C Z) (rt : IRow w 0 w.heap.size at' M T) (rl : I8 w 0 w.heap.size al l1 F) (rs : IRow w 0 w.heap.size as' ls S) :
    Calls Try.prog 5 #[.slice at' M ct, .slice ai n ci, .slice al l1 c1, .slice as' ls cs, .int .i64 sink] w fun e w' => e = .returned (.bool true) ∧ Below w.heap.size w w' := by
  have HB := hidden (bytes13 at' ai al as' M ct n ci l1 c1 ls cs sink 0 w.heap.size A L C Z w h0 hn h1 h2 hr)
  have HR := hidden hr
  have RT := hidden rt
  have RL := hidden rl
  have RS := hidden rs
  have HF := hidden hF
  unfold maxLen at h0 hn h1 h2
  clear hr rt rl rs hF
  by_cases hsm : M ≤ 4096 ∧ n ≤ 4096 ∧ l1 ≤ 4096 ∧ ls ≤ 4096
  · obtain ⟨m0, m1, m2, m3⟩ := hsm
    have k0 : (M : Int) ≤ 4096 := by omega
    have k1 : (n : Int) ≤ 4096 := by omega
    have k2 : (l1 : Int) ≤ 4096 := by omega
    have k3 : (ls : Int) ≤ 4096 := by omega
    have HS := hidden (flowBytes at' ai al as' M ct n ci l1 c1 ls cs 0 w.heap.size A L C Z w (by omega) (by omega) (by omega) (by omega) HR.out)
    clear h0 hn h1 h2
    go_enter Try.func5, Try.ntmps5
    go_wp2_with fail
    refine HB.out.mono ?_
    rintro e w' ⟨⟨r, rfl⟩, rfl⟩
    cases r
    · go_wp2
      go_ret
      exact ⟨rfl, Below.refl _ _⟩
    go_wp2_with fail
    refine HS.out.mono ?_
    rintro e w' ⟨⟨r, rfl, hsz⟩, rfl⟩
    by_cases hr : r ≤ 1048576
    · have HL := hidden (hsz hr)
      have HD := hidden (flowDomain at' ai al as' M ct n ci l1 c1 ls cs sink false 0 w'.heap.size A L C Z T F S w' (by omega) (by omega) (by omega) (by omega) (hsz hr) HF.out (Nat.le_refl _) HR.out RT.out RL.out RS.out)
      clear hsz HB HS
      go_wp2_with fail
      refine HD.out.mono ?_
      rintro e w1 ⟨⟨r2, rfl, hdom⟩, hbel⟩
      have BEL := hidden hbel
      clear hbel HD
      cases r2
      · go_wp2
        go_ret
        exact ⟨rfl, BEL.out⟩
      have DOM := hidden (hdom rfl)
      obtain rfl := (hdom rfl).len
      obtain ⟨sk, rfl⟩ := Int.eq_ofNat_of_zero_le (hdom rfl).snk.1
      clear hdom
      have hmk1 := run_make_row' (P := Try.prog) 26 3 (.int .i64 0) 8 Try.underlying26 Try.info3 rfl .i64 .i64 ls (by omega) (by omega)
      go_upto_if 56 with fail
      go_cut [3] (fun v wx => Copied w' ls S v wx ∧ Below w1.heap.size w1 wx)
      case first =>
        have rr := (RS.out.below BEL.out (Nat.le_refl _)).wide (Nat.le_refl _) BEL.out.size
        have RR := hidden rr
        clear rr
        cases as' with
        | none =>
          go_wp2
          go_meet
          case rel => exact ⟨⟨none, cs, rfl, RR.out, BEL.out⟩, Below.refl _ _⟩
        | some ad =>
          go_wp2_with (refine wpList_copy_ints (w0 := w1) (by rfl) (.tmp 60) (.tmp 61) (by rfl) (some ad) ls cs (by rfl) (by rfl) 0 w1.heap.size S (Nat.le_refl _) RR.out ?_; intro w9 hb9 hlt9 hr9)
          go_meet
          case rel => exact ⟨⟨_, _, rfl, hr9.wide (Nat.zero_le _) (by omega), BEL.out.trans (hb9.mono BEL.out.size)⟩, hb9⟩
      case rest =>
        obtain ⟨⟨bs, ds, rfl, q1, hb1⟩, hgo⟩ := hcut
        obtain ⟨wA, rfl⟩ : ∃ wA : World, wA = wc := ⟨_, rfl⟩
        have QS := hidden q1
        have BEL2 := hidden hb1
        clear q1 hb1 BEL hgo hmk1
        have HC1 := hidden (clone_any at' l1 ct T 0 w'.heap.size wA (by omega) BEL2.out.size (RT.out.below BEL2.out (Nat.le_refl _)))
        go_wp2_with fail
        refine HC1.out.mono ?_
        rintro e wB ⟨bt, rfl, rtB, hbB⟩
        have TB := hidden (rtB.wide (Nat.zero_le _) (Nat.le_refl _))
        have SB := hidden (QS.out.grow hbB (Nat.le_refl _) hbB.size (Nat.le_refl _))
        have BEL3 := hidden (BEL2.out.trans (hbB.mono BEL2.out.size))
        clear rtB hbB QS BEL2 HC1
        have HC2 := hidden (rows_any ai n ci A L C Z 0 w'.heap.size wB (by omega) HL.out BEL3.out.size (HR.out.below BEL3.out (Nat.le_refl _)))
        go_wp2_with fail
        refine HC2.out.mono ?_
        rintro e wC ⟨ba, Aa, rfl, hbC, rrC⟩
        have RC := hidden (rrC.wide (Nat.zero_le _) (Nat.le_refl _))
        have TC := hidden (TB.out.grow hbC (Nat.le_refl _) hbC.size (Nat.le_refl _))
        have SC := hidden (SB.out.grow hbC (Nat.le_refl _) hbC.size (Nat.le_refl _))
        have BEL4 := hidden (BEL3.out.trans (hbC.mono BEL3.out.size))
        clear rrC hbC TB SB BEL3 HC2
        obtain ⟨hed, arc, st, NET, TO, AR, ST, HST, ALL0⟩ := FDom.nat DOM.out TC.out RC.out SC.out
        clear TC RC SC ALL0
        have HC3 := hidden (clone8_any al l1 c1 F 0 w'.heap.size wC (by omega) BEL4.out.size (RL.out.below BEL4.out (Nat.le_refl _)))
        go_wp2_with fail
        refine HC3.out.mono ?_
        rintro e wD ⟨ga, Gb, rfl, c8, hbD⟩
        have C8 := hidden c8
        have NF := hidden (newFlow wC wD wC.heap.size n l1 Gb bt ba l1 n (caps F l1) (by omega) hbD.size hbD c8.2)
        clear c8 hbD HC3
        go_wp2_with fail
        refine NF.out.mono ?_
        rintro e wE ⟨R, V, base, rfl, has⟩
        have AS0 := hidden has
        have BEL5 := hidden (BEL4.out.trans (has.below.mono BEL4.out.size))
        clear has NF
        have ZA := hidden (zaugment wC wC.heap.size base R V n l1 Gb bt ba bs ga l1 n ds l1 ls 0 wC.heap.size Aa L L arc hed sk st (caps F l1) (fun _ => 0) (.slice none 0 0) [] wE NET.out (by omega) (by omega) (by omega) HL.out (Nat.le_refl _) (Nat.le_refl _) TO.out AR.out ST.out HST.out C8.out.1 AS0.out)
        go_wp2_with fail
        refine ZA.out.mono ?_
        rintro e wX ⟨via, lg, fq, q, has, haug⟩
        have hbX := has.below
        have GR := hidden (has.row8 C8.out.1)
        have BEL6 := hidden (BEL4.out.trans (hbX.mono BEL4.out.size))
        obtain ⟨b1, rfl⟩ : ∃ b, e = .returned (.bool b) := by
          rcases haug with ⟨h, _⟩ | ⟨h, _⟩
          · exact ⟨_, h⟩
          · exact ⟨_, h⟩
        have AUG := hidden haug
        have BX := hidden hbX
        clear has haug hbX ZA AS0 BEL5
        have HC4 := hidden (clone8_any al l1 c1 F 0 w'.heap.size wX (by omega) BEL6.out.size (RL.out.below BEL6.out (Nat.le_refl _)))
        go_wp2_with fail
        refine HC4.out.mono ?_
        rintro e wY ⟨ga2, Gb2, rfl, c8, hbY⟩
        obtain ⟨Wb, k1, k2, k3⟩ := c8.wb
        have BXY := hidden (BX.out.trans (hbY.mono BX.out.size))
        have BY := hidden hbY
        have BEL7 := hidden (BEL6.out.trans (hbY.mono BEL6.out.size))
        have KW := hidden k1
        have K3 := hidden k3
        have K2 := hidden k2
        clear c8 hbY HC4 k1 k2 k3
        have MD := hidden (model_any bt ba bs ga2 l1 l1 n n ds l1 ls 0 wC.heap.size Wb Aa L L arc hed sk st (caps F l1) wY NET.out (by omega) (by omega) (by omega) HL.out BXY.out.size (Nat.le_trans BX.out.size KW.out) (TO.out.below BXY.out (Nat.le_refl _)) (AR.out.below BXY.out (Nat.le_refl _)) (ST.out.below BXY.out (Nat.le_refl _)) HST.out K2.out K3.out)
        go_wp2_with fail
        refine MD.out.mono ?_
        rintro e wZ ⟨lw, hgr, hrow, hmdl⟩
        obtain ⟨hll, b, hb1, hb2⟩ := same5 AUG.out hmdl
        obtain rfl : b1 = b := by simpa using hb1
        subst hb2
        subst hll
        have GZ : Hid (I8 wZ 0 wX.heap.size ga l1 lg) := by
          refine (GR.out.below BY.out (Nat.le_refl _)).same fun b _ hb => hgr.block b (Nat.lt_of_lt_of_le hb BY.out.size) fun e => ?_
          have h1 : b = Wb := by simpa using e
          have h2 := KW.out
          omega
        have WZ : Hid (I8 wZ 0 wZ.heap.size ga2 l1 lg) := by
          rcases K2.out with g | rfl
          · exact .inl g
          · rcases hrow with g | ⟨g1, g2⟩
            · exact .inl g
            · exact .inr ⟨Wb, 0, rfl, Nat.zero_le _, g2.lt, fun i hi => by rw [Nat.zero_add]; exact g2.cell hi⟩
        have BZ : Hid (Below w'.heap.size w' wZ) := by
          have h0 := BEL7.out
          have h1 := BEL6.out.size
          have h2 := KW.out
          refine ⟨hgr.os.trans h0.os, hgr.tape.trans h0.tape, hgr.output.trans h0.output, Nat.le_trans h0.size hgr.size, fun k hk => ?_⟩
          rw [hgr.block k (Nat.lt_of_lt_of_le hk h0.size) fun e => by
            have h3 : k = Wb := by simpa using e
            omega]
          exact h0.block k hk
        have EQ := hidden (equal8 ga ga2 l1 l1 l1 0 wX.heap.size 0 wZ.heap.size lg wZ (by omega) (Nat.le_trans BY.out.size hgr.size) (Nat.le_refl _) GZ.out WZ.out)
        clear hgr hrow hmdl hb1 GZ WZ MD AUG
        have hbb : (b1 != b1) = false := by simp
        go_wp2_with fail
        refine EQ.out.mono ?_
        rintro e wW ⟨rfl, hbW⟩
        have BW := hidden (BZ.out.trans (hbW.mono BZ.out.size))
        clear hbW
        go_wp2
        go_ret
        exact ⟨rfl, BW.out⟩
    · clear hsz
      go_wp2_with fail
      go_ret
      exact ⟨rfl, Below.refl _ _⟩
  · have four : (4096 : Int) < M ∨ ((M : Int) ≤ 4096 ∧ (4096 : Int) < n) ∨ ((M : Int) ≤ 4096 ∧ (n : Int) ≤ 4096 ∧ (4096 : Int) < l1) ∨ ((M : Int) ≤ 4096 ∧ (n : Int) ≤ 4096 ∧ (l1 : Int) ≤ 4096 ∧ (4096 : Int) < ls) := by omega
    clear hsm
    rcases four with f0 | ⟨f0, f1⟩ | ⟨f0, f1, f2⟩ | ⟨f0, f1, f2, f3⟩
    all_goals
      go_enter Try.func5, Try.ntmps5
      go_wp2_with fail
      refine HB.out.mono ?_
      rintro e w' ⟨⟨r, rfl⟩, rfl⟩
      cases r
      · go_wp2
        go_ret
        exact ⟨rfl, Below.refl _ _⟩
      · go_wp2_with fail
        go_ret
        exact ⟨rfl, Below.refl _ _⟩

end Go.Proofs.Qxb6604796a
