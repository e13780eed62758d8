/-
  THE LAW 'FnAugmentUntilStuckEqualsACut': its walk.
-/
import Derived.Test.Qxb6604796aFv
namespace Go.Proofs.Qxb6604796a
open Go.RowKit Af
set_option linter.unusedVariables false

set_option maxRecDepth 100000 in
set_option maxHeartbeats 4000000 in
theorem law6 (at' ai al as' : Option Addr) (M ct n ci l1 c1 ls cs : Nat) (sink : Int) (A : Nat → Option Addr) (L C : Nat → Nat) (Z : Nat → Nat → Int) (T F S : Nat → Int) (w : World)
    (h0 : M ≤ maxLen) (hn : n ≤ maxLen) (h1 : l1 ≤ maxLen) (h2 : ls ≤ maxLen) (hF : ∀ a, a < l1 → -128 ≤ F a ∧ F a ≤ 127) (hr : IRows w 0 w.heap.size ai n A L C Z) (rt : IRow w 0 w.heap.size at' M T) (rl : I8 w 0 w.heap.size al l1 F) (rs : IRow w 0 w.heap.size as' ls S) :
    Calls Try.prog 6 #[.slice at' M ct, .slice ai n ci, .slice al l1 c1, .slice as' ls cs, .int .i64 sink] w fun e w' => e = .returned (.bool true) ∧ Below w.heap.size w w' := by
  have HB := hidden (bytes23 at' ai al as' M ct n ci l1 c1 ls cs sink 0 w.heap.size A L C Z w h0 hn h1 h2 hr)
  have HR := hidden hr
  have RT := hidden rt
  have RL := hidden rl
  have RS := hidden rs
  have HF := hidden hF
  unfold maxLen at h0 hn h1 h2
  clear hr rt rl rs hF
  by_cases hsm : M ≤ 1024 ∧ n ≤ 1024 ∧ l1 ≤ 1024 ∧ ls ≤ 1024
  · obtain ⟨m0, m1, m2, m3⟩ := hsm
    have k0 : (M : Int) ≤ 1024 := by omega
    have k1 : (n : Int) ≤ 1024 := by omega
    have k2 : (l1 : Int) ≤ 1024 := by omega
    have k3 : (ls : Int) ≤ 1024 := by omega
    have HS := hidden (flowBytes at' ai al as' M ct n ci l1 c1 ls cs 0 w.heap.size A L C Z w (by omega) (by omega) (by omega) (by omega) HR.out)
    clear h0 hn h1 h2
    go_enter Try.func6, Try.ntmps6
    go_wp2_with fail
    refine HB.out.mono ?_
    rintro e w' ⟨⟨r, rfl⟩, rfl⟩
    cases r
    · go_wp2
      go_ret
      exact ⟨rfl, Below.refl _ _⟩
    go_wp2_with fail
    refine HS.out.mono ?_
    rintro e w' ⟨⟨r, rfl, hsz⟩, rfl⟩
    by_cases hr : r ≤ 1048576
    · have HL := hidden (hsz hr)
      have HD := hidden (flowDomain at' ai al as' M ct n ci l1 c1 ls cs sink true 0 w'.heap.size A L C Z T F S w' (by omega) (by omega) (by omega) (by omega) (hsz hr) HF.out (Nat.le_refl _) HR.out RT.out RL.out RS.out)
      clear hsz HB HS
      go_wp2_with fail
      refine HD.out.mono ?_
      rintro e w1 ⟨⟨r2, rfl, hdom⟩, hbel⟩
      have BEL := hidden hbel
      clear hbel HD
      cases r2
      · go_wp2
        go_ret
        exact ⟨rfl, BEL.out⟩
      have DOM := hidden (hdom rfl)
      obtain rfl := (hdom rfl).len
      obtain ⟨sk, rfl⟩ := Int.eq_ofNat_of_zero_le (hdom rfl).snk.1
      clear hdom
      have hmk1 := run_make_row' (P := Try.prog) 26 3 (.int .i64 0) 8 Try.underlying26 Try.info3 rfl .i64 .i64 ls (by omega) (by omega)
      go_upto_if 68 with fail
      go_cut [3] (fun v wx => Copied w' ls S v wx ∧ Below w1.heap.size w1 wx)
      case first =>
        have rr := (RS.out.below BEL.out (Nat.le_refl _)).wide (Nat.le_refl _) BEL.out.size
        have RR := hidden rr
        clear rr
        cases as' with
        | none =>
          go_wp2
          go_meet
          case rel => exact ⟨⟨none, cs, rfl, RR.out, BEL.out⟩, Below.refl _ _⟩
        | some ad =>
          go_wp2_with (refine wpList_copy_ints (w0 := w1) (by rfl) (.tmp 72) (.tmp 73) (by rfl) (some ad) ls cs (by rfl) (by rfl) 0 w1.heap.size S (Nat.le_refl _) RR.out ?_; intro w9 hb9 hlt9 hr9)
          go_meet
          case rel => exact ⟨⟨_, _, rfl, hr9.wide (Nat.zero_le _) (by omega), BEL.out.trans (hb9.mono BEL.out.size)⟩, hb9⟩
      case rest =>
        obtain ⟨⟨bs, ds, rfl, q1, hb1⟩, hgo⟩ := hcut
        obtain ⟨wA, rfl⟩ : ∃ wA : World, wA = wc := ⟨_, rfl⟩
        have QS := hidden q1
        have BEL2 := hidden hb1
        clear q1 hb1 BEL hgo hmk1
        have HC1 := hidden (clone_any at' l1 ct T 0 w'.heap.size wA (by omega) BEL2.out.size (RT.out.below BEL2.out (Nat.le_refl _)))
        go_wp2_with fail
        refine HC1.out.mono ?_
        rintro e wB ⟨bt, rfl, rtB, hbB⟩
        have TB := hidden (rtB.wide (Nat.zero_le _) (Nat.le_refl _))
        have SB := hidden (QS.out.grow hbB (Nat.le_refl _) hbB.size (Nat.le_refl _))
        have BEL3 := hidden (BEL2.out.trans (hbB.mono BEL2.out.size))
        clear rtB hbB QS BEL2 HC1
        have HC2 := hidden (rows_any ai n ci A L C Z 0 w'.heap.size wB (by omega) HL.out BEL3.out.size (HR.out.below BEL3.out (Nat.le_refl _)))
        go_wp2_with fail
        refine HC2.out.mono ?_
        rintro e wC ⟨ba, Aa, rfl, hbC, rrC⟩
        have RC := hidden (rrC.wide (Nat.zero_le _) (Nat.le_refl _))
        have TC := hidden (TB.out.grow hbC (Nat.le_refl _) hbC.size (Nat.le_refl _))
        have SC := hidden (SB.out.grow hbC (Nat.le_refl _) hbC.size (Nat.le_refl _))
        have BEL4 := hidden (BEL3.out.trans (hbC.mono BEL3.out.size))
        clear rrC hbC TB SB BEL3 HC2
        obtain ⟨hed, arc, st, NET, TO, AR, ST, HST, ALL0⟩ := FDom.nat DOM.out TC.out RC.out SC.out
        have ALL : Hid (∀ a, a < l1 → ∃ v i, v < n ∧ i < L v ∧ arc v i = a) := ALL0.out rfl
        clear TC RC SC ALL0
        have HC3 := hidden (clone8_any al l1 c1 F 0 w'.heap.size wC (by omega) BEL4.out.size (RL.out.below BEL4.out (Nat.le_refl _)))
        go_wp2_with fail
        refine HC3.out.mono ?_
        rintro e wD ⟨ga, Gb, rfl, c8, hbD⟩
        have C8 := hidden c8
        have NF := hidden (newFlow wC wD wC.heap.size n l1 Gb bt ba l1 n (caps F l1) (by omega) hbD.size hbD c8.2)
        clear c8 hbD HC3
        go_wp2_with fail
        refine NF.out.mono ?_
        rintro e wE ⟨R, V, base, rfl, has⟩
        have AS0 := hidden has
        have BEL5 := hidden (BEL4.out.trans (has.below.mono BEL4.out.size))
        clear has NF
        have SB : Hid (∀ k, k ≤ l1 → 0 ≤ sumTo (caps F l1) k ∧ sumTo (caps F l1) k ≤ 127 * k) := fun k hk => sum_bounds (by omega) k fun b hb => by
          have h1 := (DOM.out.cap b (by omega)).1
          have h2 := (HF.out b (by omega)).2
          unfold caps; rw [if_pos (by omega)]; exact ⟨h1, h2⟩
        go_wp2
        go_loop [14, 15] (fun z i => ∃ k : Nat, k ≤ l1 ∧ z = .int .i64 (sumTo (caps F l1) k) ∧ i = .int .i64 k) (fun _ i => l1 - (intOf i).toNat)
        case atStart => exact ⟨0, Nat.zero_le _, rfl, rfl⟩
        case round =>
          obtain ⟨k, hk, rfl, rfl⟩ := hrel
          obtain ⟨q0, q1⟩ := SB.out k hk
          by_cases hlt : k < l1
          · rcases (RL.out.below BEL5.out (Nat.le_refl _)) with h0 | ⟨fb, fo, rfl, _, _, fc⟩
            · omega
            have c := fc k hlt
            obtain ⟨b1, b2⟩ := HF.out k hlt
            have e1 : sumTo (caps F l1) (k + 1) = sumTo (caps F l1) k + F k := by rw [sumTo]; unfold caps; rw [if_pos hlt]
            have E1 := hidden e1
            obtain ⟨y, hy⟩ : ∃ y, y = sumTo (caps F l1) k := ⟨_, rfl⟩
            rw [← hy] at q0 q1 E1 ⊢
            clear fc e1 hy
            go_wp2
            go_round
            case rel => exact ⟨k + 1, by omega, by rw [E1.out], by go_num⟩
            case measure => simp [intOf]; omega
          · have e : l1 = k := by omega
            subst e
            clear hlt hk
            have BND : Hid (∀ t l, Flow6 l1 hed sk ls st (caps F l1) t l → (t : Int) ≤ sumTo (caps F l1) l1) := fun t l h => h.bound NET.out.nonneg fun i hi => (HST.out i hi).2
            have ZA : Hid (∀ t wr, A6 wC wC.heap.size base R V n l1 Gb (.slice bt l1 l1) (.slice ba n n) hed sk ls st (caps F l1) t wr → Calls Try.prog 20 #[.pointer (some ⟨R, 0, none⟩), .slice ga l1 l1, .slice bs ls ds, .int .i64 sk] wr fun e w' => (e = .returned (.bool true) ∧ A6 wC wC.heap.size base R V n l1 Gb (.slice bt l1 l1) (.slice ba n n) hed sk ls st (caps F l1) (t + 1) w') ∨ (e = .returned (.bool false) ∧ S6 wC wC.heap.size base R V n l1 Gb (.slice bt l1 l1) (.slice ba n n) L arc hed sk ls st (caps F l1) t w')) := fun t wr h => zaug6 wC wC.heap.size base R V n l1 Gb bt ba bs ga l1 n ds l1 ls 0 wC.heap.size Aa L L arc hed sk st (caps F l1) t wr NET.out (by omega) (by omega) (by omega) HL.out (Nat.le_refl _) (Nat.le_refl _) TO.out AR.out ST.out HST.out C8.out.1 h
            obtain ⟨y, hy⟩ : ∃ y, y = sumTo (caps F l1) l1 := ⟨_, rfl⟩
            rw [← hy] at q0 q1 BND ⊢
            clear hy
            have hmk := run_make_row' (P := Try.prog) 40 4 (.bool false) 1 Try.underlying40 Try.info4 rfl .i64 .i64 n (by omega) (by omega)
            go_wp2
            go_loopw [16, 17] (fun s b wr => ∃ t : Nat, s = .int .i64 t ∧ b = .bool false ∧ A6 wC wC.heap.size base R V n l1 Gb (.slice bt l1 l1) (.slice ba n n) hed sk ls st (caps F l1) t wr) (fun s _ _ => (y + 1 - intOf s).toNat)
            case atStart => exact ⟨0, rfl, rfl, _, _, _, _, AS0.out, Flow6.start NET.out.nonneg⟩
            case round =>
              obtain ⟨t, rfl, rfl, hA⟩ := hrel
              have HA := hidden hA
              have hty : (t : Int) ≤ y := by
                obtain ⟨_, _, _, _, _, h⟩ := hA
                exact BND.out _ _ h
              clear hA
              go_wp2_with fail
              refine (ZA.out t wr HA.out).mono ?_
              rintro e w2 (⟨rfl, h1⟩ | ⟨rfl, h1⟩)
              · have H1 := hidden h1
                clear h1
                go_wp2
                go_roundw
                case rel => exact ⟨t + 1, by go_num, rfl, H1.out⟩
                case measure => simp [intOf]; omega
              · obtain ⟨via, l, fq, q, V0, has, hfl, hsh, hv0⟩ := h1
                obtain ⟨wF, hwF⟩ : ∃ wF : World, wF = w2 := ⟨_, rfl⟩
                subst hwF
                have hbF := has.below
                have TO2 := hidden (TO.out.grow hbF (Nat.le_refl _) hbF.size (Nat.le_refl _))
                have ST2 := hidden (ST.out.grow hbF (Nat.le_refl _) hbF.size (Nat.le_refl _))
                have AR2 := hidden ((AR.out.below hbF (Nat.le_refl _)).wide (Nat.zero_le _) hbF.size)
                have GO2 := hidden (has.row8 C8.out.1)
                have BEL6 := hidden (BEL4.out.trans (hbF.mono BEL4.out.size))
                have LE2 := hidden ((RL.out.below BEL6.out (Nat.le_refl _)).wide (Nat.zero_le _) BEL6.out.size)
                have CUT : Hid (∀ ρ : Nat → Bool, (∀ u, u < n → (ρ u = true ↔ Mt.Reach L (zpos l arc hed) (Pk (fun i => (st i : Int)) ls) (fun _ => False) u)) → ρ sk = false ∧ cutSum ρ hed (caps F l1) l1 = t) := fun ρ hρ => s6_cut hfl NET.out ALL.out HST.out hsh hv0 hρ
                have LB : Hid (∀ a, a < l1 → 0 ≤ l a ∧ l a ≤ 127 ∧ l a + l (x a) = F a + F (x a)) := fun a ha => by
                  have h1 := hfl.nonneg a
                  have h2 := hfl.nonneg (x a)
                  have h3 := hfl.pair a
                  have h4 := NET.out.pair a
                  have h5 : caps F l1 a + caps F l1 (x a) = F a + F (x a) := by unfold caps; rw [if_pos ha, if_pos (x_lt ha DOM.out.even)]
                  omega
                clear has hfl hsh hv0 hbF HA ZA BND AS0 BEL5 BEL4 TO AR ST
                go_wp2
                go_loopw [18] (fun i wr => ∃ k : Nat, k ≤ l1 ∧ i = .int .i64 k ∧ Below wF.heap.size wF wr) (fun i _ => l1 - (intOf i).toNat)
                case atStart => exact ⟨0, Nat.zero_le _, rfl, Below.refl _ _⟩
                case round =>
                  obtain ⟨k, hk, rfl, hbel⟩ := hrel
                  have BG := hidden hbel
                  by_cases hlt : k < l1
                  · have hxl : x k < l1 := x_lt hlt DOM.out.even
                    rcases (GO2.out.below hbel (Nat.le_refl _)) with h0 | ⟨gb, gof, rfl, _, _, gc⟩
                    · omega
                    rcases (LE2.out.below hbel (Nat.le_refl _)) with h0 | ⟨fb, fo, rfl, _, _, fc⟩
                    · omega
                    have c1 := gc k hlt
                    have c2 := gc (x k) hxl
                    have c3 := fc k hlt
                    have c4 := fc (x k) hxl
                    obtain ⟨b1, b2⟩ := HF.out k hlt
                    obtain ⟨b3, b4⟩ := HF.out (x k) hxl
                    obtain ⟨b5, b6, b7⟩ := LB.out k hlt
                    obtain ⟨b8, b9, _⟩ := LB.out (x k) hxl
                    have hbx := bits_x k (by omega)
                    obtain ⟨y2, hy⟩ : ∃ y2, y2 = x k := ⟨_, rfl⟩
                    rw [← hy] at c2 c4 b3 b4 b7 b8 b9 hbx hxl
                    have hne : (l k + l y2 != F k + F y2) = false := by simp [b7]
                    clear gc fc hbel hy b7
                    go_wp2
                    go_quiet (fail)
                    go_wp2
                    go_roundw
                    case rel => exact ⟨k + 1, by omega, by go_num, below_drewN BG.out _⟩
                    case measure => simp [intOf]; omega
                  · have e : l1 = k := by omega
                    subst e
                    clear hbel hlt hk
                    obtain ⟨wG, hwG⟩ : ∃ wG : World, wG = wr := ⟨_, rfl⟩
                    subst hwG
                    have hbG := BG.out
                    have TO3 := hidden (TO2.out.grow hbG (Nat.le_refl _) hbG.size (Nat.le_refl _))
                    have ST3 := hidden (ST2.out.grow hbG (Nat.le_refl _) hbG.size (Nat.le_refl _))
                    have AR3 := hidden ((AR2.out.below hbG (Nat.le_refl _)).wide (Nat.zero_le _) hbG.size)
                    have GO3 := hidden (GO2.out.grow hbG (Nat.le_refl _) hbG.size (Nat.le_refl _))
                    have LE3 := hidden (LE2.out.grow hbG (Nat.le_refl _) hbG.size (Nat.le_refl _))
                    have BEL7 := hidden (BEL6.out.trans (hbG.mono BEL6.out.size))
                    clear hbG TO2 ST2 AR2 GO2 LE2 BEL6 BG
                    go_wp2
                    go_loopw [21] (fun i wr => ∃ (k : Nat) (β : Nat → Bool), k ≤ ls ∧ i = .int .i64 k ∧ B1 wG n β wr ∧ Says n β (Pk (fun i => (st i : Int)) k)) (fun i _ => ls - (intOf i).toNat)
                    case atStart => exact ⟨0, _, Nat.zero_le _, rfl, B1.start wG n, fun u _ => ⟨fun h => (by cases h), fun h => absurd h Pk.zero⟩⟩
                    case round =>
                      obtain ⟨k, β, hk, rfl, hM, hS⟩ := hrel
                      have MM := hidden hM
                      have SS := hidden hS
                      by_cases hlt : k < ls
                      · rcases (ST3.out.below hM.below (Nat.le_refl _)) with h0 | ⟨b, o, rfl, _, hb, hc⟩
                        · omega
                        have cv : wr.cell? ⟨b, o + k, none⟩ = some (.int .i64 ((st k : Nat) : Int)) := hc k hlt
                        have hvn := (HST.out k hlt).1
                        obtain ⟨v, hv⟩ : ∃ v, v = st k := ⟨_, rfl⟩
                        have hvk : Hid (((st k : Nat) : Int) = (v : Int)) := by rw [hv]; exact hidden rfl
                        rw [← hv] at cv hvn
                        have xv := hM.blk.cell hvn
                        have fv := hM.blk.frozen v
                        clear hM hS hc hv
                        go_wp2
                        go_roundw
                        case rel => exact ⟨k + 1, _, by omega, by go_num, MM.out.set v, SS.out.set v (fun u => Pk.succ hvk.out)⟩
                        case measure => simp [intOf]; omega
                      · have e : ls = k := by omega
                        subst e
                        clear hM hS hlt hk
                        have RI0 : Hid (RI n L (zpos l arc hed) (Pk (fun i => (st i : Int)) ls) (fun _ => False) β 0) := ⟨fun u hu => by
                          have hun : u < n := by
                            obtain ⟨i, h1, h2⟩ := hu
                            have := HST.out i h1
                            have h3 : ((st i : Nat) : Int) = (u : Int) := h2
                            omega
                          exact ⟨hun, (SS.out u hun).2 hu⟩, fun u hu h => Mt.Reach.start ((SS.out u hu).1 h), by have := falses_le β n; omega⟩
                        have HIN : Hid (∀ v u, v < n → Mt.In L (zpos l arc hed) v u → u < n) := fun v u hv hi => by
                          obtain ⟨i, g1, g2, g3⟩ := zpos_in hi
                          rw [← g3]; exact NET.out.tolt _ (NET.out.arclt v hv i g1)
                        clear SS
                        go_upto_block 8 with fail
                        go_cut [] (fun wx => ∃ ρ, B1 wG n ρ wx ∧ ∀ u, u < n → (ρ u = true ↔ Mt.Reach L (zpos l arc hed) (Pk (fun i => (st i : Int)) ls) (fun _ => False) u))
                        case first =>
                          clear CUT LE3 ST3
                          go_wp2
                          go_loopw [22] (fun i wr => ∃ (r : Nat) (ρ : Nat → Bool), r ≤ n ∧ i = .int .i64 r ∧ B1 wG n ρ wr ∧ RI n L (zpos l arc hed) (Pk (fun i => (st i : Int)) ls) (fun _ => False) ρ r) (fun i _ => n - (intOf i).toNat)
                          case atStart => exact ⟨0, _, Nat.zero_le _, rfl, MM.out, RI0.out⟩
                          case round =>
                            obtain ⟨r, ρ, hrn, rfl, hB, hI⟩ := hrel
                            have BB := hidden hB
                            have II := hidden hI
                            clear hB hI MM RI0
                            by_cases hlt : r < n
                            · obtain ⟨wo, rfl⟩ : ∃ wo : World, wo = wr := ⟨_, rfl⟩
                              go_wp2
                              go_loopw [23, 24] (fun cv i w5 => ∃ (k : Nat) (ρ : Nat → Bool) (c : Bool), k ≤ n ∧ cv = .bool c ∧ i = .int .i64 k ∧ B1 wG n ρ w5 ∧ RR n L (zpos l arc hed) (Pk (fun i => (st i : Int)) ls) (fun _ => False) ρ r c k) (fun _ i _ => n - (intOf i).toNat)
                              case atStart => exact ⟨0, ρ, false, Nat.zero_le _, rfl, rfl, BB.out, RR.start II.out⟩
                              case round =>
                                obtain ⟨k, ρ, c, hkn, rfl, rfl, hB, hRR⟩ := hrel
                                have BB := hidden hB
                                have QQ := hidden hRR
                                clear II
                                by_cases hk : k < n
                                · have xk := hB.blk.cell hk
                                  clear hB hRR
                                  by_cases hρ : ρ k = true
                                  · obtain ⟨w5, rfl⟩ : ∃ w5 : World, w5 = wr := ⟨_, rfl⟩
                                    have D0 : Hid (c = false → Closed (zpos l arc hed) (fun _ => False) ρ k 0) := fun _ i u h => absurd h (Nat.not_lt_zero _)
                                    rw [hρ] at xk
                                    rcases (AR3.out.below BB.out.below (Nat.le_refl _)) with h0 | ⟨ab, ao, rfl, _, hab, hrows⟩
                                    · omega
                                    · obtain ⟨av, hav⟩ : ∃ av, Aa k = av := ⟨_, rfl⟩
                                      have crow0 : wG.cell? ⟨ab, ao + k, none⟩ = some (.slice av (L k) (L k)) := by
                                        have := (hrows k hk).1
                                        rw [BB.out.below.cell (p := ⟨ab, ao + k, none⟩) (show ab < wG.heap.size by omega), hav] at this
                                        exact this
                                      have hrow0 : IRow wG 0 wG.heap.size av (L k) (fun i => (arc k i : Int)) := by
                                        rcases AR3.out with h0 | ⟨_, _, _, _, _, hrows'⟩
                                        · omega
                                        · have := (hrows' k hk).2.2.2
                                          rw [hav] at this; exact this
                                      have RK := hidden hrow0
                                      have CK := hidden crow0
                                      have hlk := HL.out k hk
                                      clear hrows hav hrow0 crow0
                                      go_wp2
                                      go_loopw [23, 25] (fun cv i w6 => ∃ (j : Nat) (ρ : Nat → Bool) (c : Bool), j ≤ L k ∧ cv = .bool c ∧ i = .int .i64 j ∧ B1 wG n ρ w6 ∧ RR n L (zpos l arc hed) (Pk (fun i => (st i : Int)) ls) (fun _ => False) ρ r c k ∧ ρ k = true ∧ (c = false → Closed (zpos l arc hed) (fun _ => False) ρ k j)) (fun _ i _ => L k - (intOf i).toNat)
                                      case atStart => exact ⟨0, ρ, c, Nat.zero_le _, rfl, rfl, BB.out, QQ.out, hρ, D0.out⟩
                                      case round =>
                                        obtain ⟨j, ρ, c, hj, rfl, rfl, hB, hRR, hρk, hcl⟩ := hrel
                                        have BB := hidden hB
                                        have QQ := hidden hRR
                                        have CL := hidden hcl
                                        have HK := hidden hρk
                                        clear D0 xk hρ
                                        have crow : wr.cell? ⟨ab, ao + k, none⟩ = some (.slice av (L k) (L k)) := by rw [hB.below.cell (p := ⟨ab, ao + k, none⟩) (show ab < wG.heap.size by omega)]; exact CK.out
                                        by_cases hjl : j < L k
                                        · rcases (RK.out.below hB.below (Nat.le_refl _)) with h0 | ⟨rb, ro, rfl, _, _, hcells⟩
                                          · omega
                                          · have cu : wr.cell? ⟨rb, ro + j, none⟩ = some (.int .i64 ((arc k j : Nat) : Int)) := hcells j hjl
                                            have hal := NET.out.arclt k hk j hjl
                                            obtain ⟨a, hae⟩ : ∃ a, a = arc k j := ⟨_, rfl⟩
                                            have HAE := hidden hae
                                            have hun := NET.out.tolt a (by rw [hae]; exact hal)
                                            rw [← hae] at cu hal
                                            rcases (TO3.out.below hB.below (Nat.le_refl _)) with h0 | ⟨tb, tto, rfl, _, _, tc⟩
                                            · omega
                                            rcases (GO3.out.below hB.below (Nat.le_refl _)) with h0 | ⟨gb, gof, rfl, _, _, gc⟩
                                            · omega
                                            have ct0 : wr.cell? ⟨tb, tto + a, none⟩ = some (.int .i64 ((hed a : Nat) : Int)) := tc a hal
                                            have cg0 := gc a hal
                                            obtain ⟨b1, b2, _⟩ := LB.out a hal
                                            obtain ⟨u, hue⟩ : ∃ u, u = hed a := ⟨_, rfl⟩
                                            have HUE := hidden hue
                                            rw [← hue] at ct0 hun
                                            have xu := hB.blk.cell hun
                                            have fu := hB.blk.frozen u
                                            clear hcells hB hRR hcl hρk tc gc hae hue
                                            by_cases hp : 0 < l a
                                            · have HU := hidden (zpos_pos HAE.out HUE.out hp)
                                              by_cases hru : ρ u = true
                                              · rw [hru] at xu
                                                have RUU := hidden hru
                                                clear hru
                                                go_wp2
                                                go_roundw
                                                case rel => exact ⟨j + 1, ρ, c, by omega, rfl, by go_num, BB.out, QQ.out, HK.out, fun hc i u' hi e hb => by
                                                  by_cases ei : i = j
                                                  · subst ei
                                                    have : u' = u := by have := HU.out; omega
                                                    subst this; exact RUU.out
                                                  · exact CL.out hc i u' (by omega) e hb⟩
                                                case measure => simp [intOf]; omega
                                              · have hru' : ρ u = false := Bool.eq_false_iff.2 hru
                                                rw [hru'] at xu
                                                have RUU := hidden hru'
                                                clear hru hru'
                                                have MK := hidden (QQ.out.ri.mark hun hk HK.out ⟨j, hjl, HU.out⟩ (fun h => h) RUU.out)
                                                go_wp2
                                                go_roundw
                                                case rel => exact ⟨j + 1, _, true, by omega, rfl, by go_num, BB.out.set u, ⟨MK.out.1, fun _ => MK.out.2, fun h => (by cases h)⟩, by have := HK.out; simp [this], fun h => (by cases h)⟩
                                                case measure => simp [intOf]; omega
                                            · have HU := hidden (zpos_neg (hed := hed) HAE.out hp)
                                              go_wp2
                                              go_roundw
                                              case rel => exact ⟨j + 1, ρ, c, by omega, rfl, by go_num, BB.out, QQ.out, HK.out, fun hc i u' hi e hb => by
                                                by_cases ei : i = j
                                                · subst ei
                                                  have := HU.out; omega
                                                · exact CL.out hc i u' (by omega) e hb⟩
                                              case measure => simp [intOf]; omega
                                        · have e : L k = j := by omega
                                          subst e
                                          have NX := hidden (QQ.out.skip fun _ hc => CL.out hc)
                                          clear hB hRR hcl hρk
                                          go_wp2
                                          go_roundw
                                          case rel => exact ⟨k + 1, ρ, c, by omega, rfl, by go_num, BB.out, NX.out⟩
                                          case measure => simp [intOf]; omega
                                  · have hρ' : ρ k = false := Bool.eq_false_iff.2 hρ
                                    rw [hρ'] at xk
                                    have NX := hidden (QQ.out.skip fun h => absurd h hρ)
                                    clear hρ hρ'
                                    go_wp2
                                    go_roundw
                                    case rel => exact ⟨k + 1, ρ, c, by omega, rfl, by go_num, BB.out, NX.out⟩
                                    case measure => simp [intOf]; omega
                                · have e : n = k := by omega
                                  subst e
                                  clear hB hRR
                                  cases c
                                  · have FI := hidden (ri_final QQ.out.ri HIN.out (.inr (QQ.out.no rfl)))
                                    go_wp2
                                    go_meet
                                    case rel => exact ⟨ρ, BB.out, FI.out⟩
                                  · have NX := hidden QQ.out.next
                                    go_wp2
                                    go_roundw
                                    case rel => exact ⟨r + 1, ρ, by omega, by go_num, BB.out, NX.out⟩
                                    case measure => simp [intOf]; omega
                            · have e : n = r := by omega
                              subst e
                              have FI := hidden (ri_final II.out HIN.out (.inl rfl))
                              go_wp2
                              go_meet
                              case rel => exact ⟨ρ, BB.out, FI.out⟩
                        case rest =>
                          obtain ⟨ρ, hB, hρ⟩ := hcut
                          obtain ⟨s0, c0⟩ := CUT.out ρ hρ
                          have BB := hidden hB
                          have hskn : sk < n := NET.out.snk
                          have cs0 := hB.blk.cell hskn
                          rw [s0] at cs0
                          have C0 := hidden c0
                          have CB : Hid (∀ k, k ≤ l1 → 0 ≤ cutSum ρ hed (caps F l1) k ∧ cutSum ρ hed (caps F l1) k ≤ 127 * k) := fun k hk => by
                            have h1 := @cut_nonneg ρ hed (caps F l1) k fun b _ => NET.out.nonneg b
                            have h2 := @cut_le_sum ρ hed (caps F l1) k fun b _ => NET.out.nonneg b
                            have h3 := SB.out k hk
                            omega
                          have BEL8 := hidden (BEL7.out.trans (hB.below.mono BEL7.out.size))
                          clear hB hρ c0 s0 CUT RI0 HIN MM
                          go_wp2
                          go_loop [27, 28] (fun z i => ∃ k : Nat, k ≤ l1 ∧ z = .int .i64 (cutSum ρ hed (caps F l1) k) ∧ i = .int .i64 k) (fun _ i => l1 - (intOf i).toNat)
                          case atStart => exact ⟨0, Nat.zero_le _, rfl, rfl⟩
                          case round =>
                            obtain ⟨k, hk, rfl, rfl⟩ := hrel
                            obtain ⟨q2, q3⟩ := CB.out k hk
                            by_cases hlt : k < l1
                            · have hxl : x k < l1 := x_lt hlt DOM.out.even
                              rcases (TO3.out.below BB.out.below (Nat.le_refl _)) with h0 | ⟨tb, tto, rfl, _, _, tc⟩
                              · omega
                              rcases (LE3.out.below BB.out.below (Nat.le_refl _)) with h0 | ⟨fb, fo, rfl, _, _, fc⟩
                              · omega
                              have c1 : wc.cell? ⟨tb, tto + k, none⟩ = some (.int .i64 ((hed k : Nat) : Int)) := tc k hlt
                              have c2 : wc.cell? ⟨tb, tto + x k, none⟩ = some (.int .i64 ((hed (x k) : Nat) : Int)) := tc (x k) hxl
                              have c3 := fc k hlt
                              have h1 := NET.out.tolt k hlt
                              have h2 := NET.out.tolt (x k) hxl
                              obtain ⟨b1, b2⟩ := HF.out k hlt
                              have hbx := bits_x k (by omega)
                              have E1 := hidden (cut_step (S := ρ) (hed := hed) (F := F) hlt)
                              obtain ⟨y2, hy⟩ : ∃ y2, y2 = x k := ⟨_, rfl⟩
                              rw [← hy] at c2 hbx hxl h2 E1
                              obtain ⟨u1, hu1⟩ : ∃ u, u = hed k := ⟨_, rfl⟩
                              obtain ⟨u2, hu2⟩ : ∃ u, u = hed y2 := ⟨_, rfl⟩
                              rw [← hu1] at c1 h1 E1
                              rw [← hu2] at c2 h2 E1
                              have d1 := BB.out.blk.cell h1
                              have d2 := BB.out.blk.cell h2
                              obtain ⟨z, hz⟩ : ∃ z, z = cutSum ρ hed (caps F l1) k := ⟨_, rfl⟩
                              rw [← hz] at q2 q3 E1 ⊢
                              clear tc fc hy hu1 hu2 hz
                              by_cases g2 : ρ u2 = true
                              · rw [g2] at d2
                                by_cases g1 : ρ u1 = true
                                · rw [g1] at d1
                                  have e1 : Hid (cutSum ρ hed (caps F l1) (k + 1) = z) := by
                                    have h := E1.out
                                    rw [if_neg (by simp [g1]), Int.add_zero] at h
                                    exact hidden h
                                  clear g1 g2 E1
                                  go_wp2
                                  go_round
                                  case rel => exact ⟨k + 1, by omega, by rw [e1.out], by go_num⟩
                                  case measure => simp [intOf]; omega
                                · have g1' : ρ u1 = false := Bool.eq_false_iff.2 g1
                                  rw [g1'] at d1
                                  have e1 : Hid (cutSum ρ hed (caps F l1) (k + 1) = z + F k) := by
                                    have h := E1.out
                                    rw [if_pos ⟨g2, g1'⟩] at h
                                    exact hidden h
                                  clear g1 g1' g2 E1
                                  go_wp2
                                  go_round
                                  case rel => exact ⟨k + 1, by omega, by rw [e1.out], by go_num⟩
                                  case measure => simp [intOf]; omega
                              · have g2' : ρ u2 = false := Bool.eq_false_iff.2 g2
                                rw [g2'] at d2
                                have e1 : Hid (cutSum ρ hed (caps F l1) (k + 1) = z) := by
                                  have h := E1.out
                                  rw [if_neg (by simp [g2']), Int.add_zero] at h
                                  exact hidden h
                                clear g2 g2' E1
                                go_wp2
                                go_round
                                case rel => exact ⟨k + 1, by omega, by rw [e1.out], by go_num⟩
                                case measure => simp [intOf]; omega
                            · have e : l1 = k := by omega
                              subst e
                              rw [C0.out]
                              clear q2 q3
                              go_wp2
                              go_ret
                              exact ⟨by simp, BEL8.out⟩
    · clear hsz
      go_wp2_with fail
      go_ret
      exact ⟨rfl, Below.refl _ _⟩
  · have four : (1024 : Int) < M ∨ ((M : Int) ≤ 1024 ∧ (1024 : Int) < n) ∨ ((M : Int) ≤ 1024 ∧ (n : Int) ≤ 1024 ∧ (1024 : Int) < l1) ∨ ((M : Int) ≤ 1024 ∧ (n : Int) ≤ 1024 ∧ (l1 : Int) ≤ 1024 ∧ (1024 : Int) < ls) := by omega
    clear hsm
    rcases four with f0 | ⟨f0, f1⟩ | ⟨f0, f1, f2⟩ | ⟨f0, f1, f2, f3⟩
    all_goals
      go_enter Try.func6, Try.ntmps6
      go_wp2_with fail
      refine HB.out.mono ?_
      rintro e w' ⟨⟨r, rfl⟩, rfl⟩
      cases r
      · go_wp2
        go_ret
        exact ⟨rfl, Below.refl _ _⟩
      · go_wp2_with fail
        go_ret
        exact ⟨rfl, Below.refl _ _⟩

end Go.Proofs.Qxb6604796a
