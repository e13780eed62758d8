/-
  THE LAW 'FnUnusableExact': its walk.
-/
import Derived.Test.Qxb6605253aG9
import Derived.Test.Qxb6605253aG5
namespace Go.Proofs.Qxb6605253a
open Go.RowKit Go.Maps
set_option linter.unusedVariables false
set_option linter.unusedSimpArgs false

theorem SRow.grow {w w' : World} {N hi : Nat} {a : Option Addr} {n c : Nat} {V : Nat → Nat → Value} (h : SRow w hi a n c V) (hb : Below N w w') (h1 : hi ≤ N) (h2 : hi ≤ w.heap.size) : SRow w' w'.heap.size a n c V := (h.below hb h1).wide (Nat.le_trans h2 hb.size)

theorem kernels_any (a : Option Addr) (n c : Nat) (q : Nat → K6) (w : World) (hn : n ≤ 4096) (hnil : a = none → n = 0 ∧ c = 0) (hr : SRow w w.heap.size a n 6 (kV q)) :
    Calls Try.prog 25 #[.slice a n c] w fun e w' => ∃ a', e = .returned (.slice a' n n) ∧ Below w.heap.size w w' ∧ SRow w' w'.heap.size a' n 6 (kV q) := by
  cases a with
  | none =>
    obtain ⟨rfl, rfl⟩ := hnil rfl
    refine (kernels25_nil w).mono ?_
    rintro e w' ⟨rfl, rfl⟩
    exact ⟨none, rfl, Below.refl _ _, .inl rfl⟩
  | some ad =>
    refine (kernels25 ad n c w.heap.size q w hn (Nat.le_refl _) hr).mono ?_
    rintro e w' ⟨rfl, h⟩
    exact ⟨_, rfl, h.below, h.srow⟩

theorem gpus_any (a : Option Addr) (n c : Nat) (g : Nat → G6) (w : World) (hn : n ≤ 4096) (hnil : a = none → n = 0 ∧ c = 0) (hr : SRow w w.heap.size a n 6 (gV g)) :
    Calls Try.prog 23 #[.slice a n c] w fun e w' => ∃ a', e = .returned (.slice a' n n) ∧ Below w.heap.size w w' ∧ SRow w' w'.heap.size a' n 6 (gV g) := by
  cases a with
  | none =>
    obtain ⟨rfl, rfl⟩ := hnil rfl
    refine (gpus23_nil w).mono ?_
    rintro e w' ⟨rfl, rfl⟩
    exact ⟨none, rfl, Below.refl _ _, .inl rfl⟩
  | some ad =>
    refine (gpus23 ad n c w.heap.size g w hn (Nat.le_refl _) hr).mono ?_
    rintro e w' ⟨rfl, h⟩
    exact ⟨_, rfl, h.below, h.srow⟩

/-- THE PLAIN LAW. -/
theorem ans_none {n nk : Nat} {t : Nat → T3} {q : Nat → K6} {s : ByteArray} (h : Ans n nk t q s) (h2 : Off n nk t q (-1)) : s = ⟨#[]⟩ := by
  rcases h2 with ⟨_, h2⟩ | ⟨i, _, h3, _⟩
  · rcases h with ⟨h, _⟩ | ⟨i, h1, h4, _⟩
    · exact h
    · obtain ⟨j, hj, e⟩ := h2 i h1
      exact absurd e (h4 j hj)
  · omega

theorem ans_some {n nk i : Nat} {t : Nat → T3} {q : Nat → K6} {s s' : ByteArray} (h : Ans n nk t q s) (hi : i < nk) (h1 : ∀ j, j < n → t j ≠ (q i).t) (h2 : ∀ i', i' < i → ∃ j, j < n ∧ t j = (q i').t) (h3 : Why n t (q i).t s') : s = s' := by
  rcases h with ⟨_, h⟩ | ⟨i2, g1, g2, g3, g4⟩
  · obtain ⟨j, hj, e⟩ := h i hi
    exact absurd e (h1 j hj)
  · have : i2 = i := by
      rcases Nat.lt_trichotomy i2 i with c | c | c
      · obtain ⟨j, hj, e⟩ := h2 i2 c
        exact absurd e (g2 j hj)
      · exact c
      · obtain ⟨j, hj, e⟩ := g3 i c
        exact absurd e (h1 j hj)
    subst this
    exact g4.unique h3

set_option maxRecDepth 100000 in
set_option maxHeartbeats 4000000 in
theorem law7 (ag af ar ak : Option Addr) (ng cg nf cf nr cr nk ck : Nat) (key : ByteArray) (single : Bool) (g : Nat → G6) (s1 s2 : Nat → ByteArray) (q : Nat → K6) (w : World)
    (h0 : ng ≤ maxLen) (h1 : nf ≤ maxLen) (h2 : nr ≤ maxLen) (h3 : nk ≤ maxLen) (n0 : ag = none → ng = 0 ∧ cg = 0) (n1 : af = none → nf = 0 ∧ cf = 0) (n2 : ar = none → nr = 0 ∧ cr = 0) (n3 : ak = none → nk = 0 ∧ ck = 0)
    (rg : SRow w w.heap.size ag ng 6 (gV g)) (rf : SRow w w.heap.size af nf 1 (sV s1)) (rr : SRow w w.heap.size ar nr 1 (sV s2)) (rk : SRow w w.heap.size ak nk 6 (kV q)) (og : ∀ i, i < ng → (g i).t.ok) (ok : ∀ i, i < nk → (q i).t.ok) :
    Calls Try.prog 7 #[.slice ag ng cg, .string key, .slice af nf cf, .slice ar nr cr, .bool single, .slice ak nk ck] w fun e w' => e = .returned (.bool true) ∧ Below w.heap.size w w' := by
  have HB := hidden (bytes30 ag af ar ak ng cg nf cf nr cr nk ck key single g s1 s2 q w h0 h1 h2 h3 rg rf rr rk)
  have RG := hidden rg
  have RF := hidden rf
  have RR := hidden rr
  have RK := hidden rk
  have OG := hidden og
  have OK := hidden ok
  have N0 := hidden n0
  have N1 := hidden n1
  have N2 := hidden n2
  have N3 := hidden n3
  clear rg rf rr rk og ok n0 n1 n2 n3
  unfold maxLen at h0 h1 h2 h3
  by_cases hsm : ng ≤ 4096 ∧ nf ≤ 65536 ∧ nr ≤ 65536 ∧ nk ≤ 4096
  · obtain ⟨m0, m1, m2, m3⟩ := hsm
    have k0 : (ng : Int) ≤ 4096 := by omega
    have k1 : (nf : Int) ≤ 65536 := by omega
    have k2 : (nr : Int) ≤ 65536 := by omega
    have k3 : (nk : Int) ≤ 4096 := by omega
    clear h0 h1 h2 h3
    go_enter Try.func7, Try.ntmps7
    go_wp2_with fail
    refine HB.out.mono ?_
    rintro e w' ⟨⟨r, rfl⟩, rfl⟩
    clear HB
    cases r
    · go_wp2
      go_ret
      exact ⟨rfl, Below.refl _ _⟩
    go_wp2_with fail
    refine (add11 _ _ _ (by omega) (by omega)).mono ?_
    rintro e w2 ⟨⟨r1, rfl, p0, p1⟩, rfl⟩
    have HS := hidden (sizeG r1 ag ng cg g w2 p0 p1 m0 RG.out)
    go_wp2_with fail
    refine HS.out.mono ?_
    rintro e w3 ⟨⟨r2, rfl, p2, p3⟩, rfl⟩
    clear HS
    have HS := hidden (sizeS r2 af nf cf s1 w3 p2 p3 m1 RF.out)
    go_wp2_with fail
    refine HS.out.mono ?_
    rintro e w4 ⟨⟨r3, rfl, p4, p5⟩, rfl⟩
    clear HS
    have HS := hidden (sizeS r3 ar nr cr s2 w4 p4 p5 m2 RR.out)
    go_wp2_with fail
    refine HS.out.mono ?_
    rintro e w5 ⟨⟨r4, rfl, p6, p7⟩, rfl⟩
    clear HS
    have HS := hidden (sizeK r4 ak nk ck q w5 p6 p7 m3 RK.out)
    go_wp2_with fail
    refine HS.out.mono ?_
    rintro e wA ⟨⟨r5, rfl, p8, p9⟩, rfl⟩
    clear HS p0 p1 p2 p3 p4 p5 p6 p7 p8
    by_cases hr5 : (1048576 : Int) < r5
    · go_wp2
      go_ret
      exact ⟨rfl, Below.refl _ _⟩
    have HC := hidden (cloneS af nf cf wA.heap.size s1 wA m1 N1.out (Nat.le_refl _) RF.out)
    go_wp2_with fail
    refine HC.out.mono ?_
    rintro e wB ⟨⟨a1, rfl⟩, hb⟩
    have BB := hidden hb
    clear hb HC p9
    have HC := hidden (cloneS ar nr cr wA.heap.size s2 wB m2 N2.out BB.out.size (RR.out.below BB.out (Nat.le_refl _)))
    go_wp2_with fail
    refine HC.out.mono ?_
    rintro e wC ⟨⟨a2, rfl⟩, hb⟩
    have BC := hidden (BB.out.trans (hb.mono BB.out.size))
    clear hb HC BB
    have HC := hidden (kernels_any ak nk ck q wC m3 N3.out (RK.out.grow BC.out (Nat.le_refl _) (Nat.le_refl _)))
    go_wp2_with fail
    refine HC.out.mono ?_
    rintro e wD ⟨a3, rfl, hb, hk3⟩
    have BD := hidden (BC.out.trans (hb.mono BC.out.size))
    have K3 := hidden hk3
    clear hb HC BC hk3
    go_upto_region 8 with fail
    obtain ⟨wE, hwE⟩ : ∃ wE : World, wE = wD.alloc (.cells #[.string key, .slice a1 nf nf, .slice a2 nr nr, .bool single, .slice a3 nk nk] 66) := ⟨_, rfl⟩
    have hfive : wE.cell? ⟨wD.heap.size, 0, none⟩ = some (.string key) ∧ wE.cell? ⟨wD.heap.size, 1, none⟩ = some (.slice a1 nf nf) ∧ wE.cell? ⟨wD.heap.size, 2, none⟩ = some (.slice a2 nr nr) ∧ wE.cell? ⟨wD.heap.size, 3, none⟩ = some (.bool single) ∧ wE.cell? ⟨wD.heap.size, 4, none⟩ = some (.slice a3 nk nk) := by rw [hwE]; exact ⟨by simp, by simp, by simp, by simp, by simp⟩
    have hEs : wD.heap.size < wE.heap.size := by rw [hwE]; simp
    have BE : Hid (Below wA.heap.size wA wE) := ⟨by rw [hwE]; exact BD.out.alloc BD.out.size _⟩
    have K4 : Hid (SRow wE wE.heap.size a3 nk 6 (kV q)) := ⟨by rw [hwE]; exact K3.out.grow ((Below.refl wD.heap.size wD).alloc (Nat.le_refl _) _) (Nat.le_refl _) (Nat.le_refl _)⟩
    rw [← hwE]
    clear hwE BD K3
    have STEP : Hid (∀ w5, Below wE.heap.size wE w5 → w5.cell? ⟨wD.heap.size, 0, none⟩ = some (.string key) ∧ w5.cell? ⟨wD.heap.size, 1, none⟩ = some (.slice a1 nf nf) ∧ w5.cell? ⟨wD.heap.size, 2, none⟩ = some (.slice a2 nr nr) ∧ w5.cell? ⟨wD.heap.size, 3, none⟩ = some (.bool single) ∧ w5.cell? ⟨wD.heap.size, 4, none⟩ = some (.slice a3 nk nk)) := ⟨fun w5 h => by
      have e := h.block wD.heap.size hEs
      obtain ⟨f0, f1, f2, f3, f4⟩ := hfive
      exact ⟨by rw [World.cell?_of_block (a := ⟨wD.heap.size, 0, none⟩) e]; exact f0, by rw [World.cell?_of_block (a := ⟨wD.heap.size, 1, none⟩) e]; exact f1, by rw [World.cell?_of_block (a := ⟨wD.heap.size, 2, none⟩) e]; exact f2, by rw [World.cell?_of_block (a := ⟨wD.heap.size, 3, none⟩) e]; exact f3, by rw [World.cell?_of_block (a := ⟨wD.heap.size, 4, none⟩) e]; exact f4⟩⟩
    have H23 : Hid (Calls Try.prog 23 #[.slice ag ng cg] wE.drew fun e w' => ∃ a', e = .returned (.slice a' ng ng) ∧ Below wE.heap.size wE w' ∧ SRow w' w'.heap.size a' ng 6 (gV g)) := ⟨by
      refine (gpus_any ag ng cg g wE.drew m0 N0.out ?_).mono ?_
      · exact RG.out.grow (below_drewN BE.out 1) (Nat.le_refl _) (Nat.le_refl _)
      · rintro e w5 ⟨a4, rfl, hb5, hs5⟩
        exact ⟨a4, rfl, ⟨hb5.os, hb5.tape, hb5.output, hb5.size, hb5.block⟩, hs5⟩⟩
    have H33 : Hid (∀ w5 a4, Below wE.heap.size wE w5 → SRow w5 w5.heap.size a4 ng 6 (gV g) → Calls Try.prog 33 #[.slice a4 ng ng, .agg #[.string key, .slice a1 nf nf, .slice a2 nr nr, .bool single, .slice a3 nk nk]] w5 fun e w' => (∃ s, e = .returned (.string s) ∧ Ans ng nk (fun i => (g i).t) q s) ∧ Below wE.heap.size wE w') := ⟨fun w5 a4 h1 h2 => by
      refine (unusable33 a4 a3 a1 a2 ng ng nk nk nf nr w5.heap.size key single g q w5 m0 m3 (Nat.le_refl _) h2 (K4.out.grow h1 (Nat.le_refl _) (Nat.le_refl _)) OG.out OK.out).mono ?_
      rintro e w6 ⟨h3, h4⟩
      exact ⟨h3, h1.trans (h4.mono h1.size)⟩⟩
    obtain ⟨e0, e1, e2, e3, e4⟩ := hfive
    go_region_held3 (fun w' => w'.cell? ⟨wD.heap.size, 0, none⟩ = some (.string key) ∧ w'.cell? ⟨wD.heap.size, 1, none⟩ = some (.slice a1 nf nf) ∧ w'.cell? ⟨wD.heap.size, 2, none⟩ = some (.slice a2 nr nr) ∧ w'.cell? ⟨wD.heap.size, 3, none⟩ = some (.bool single) ∧ w'.cell? ⟨wD.heap.size, 4, none⟩ = some (.slice a3 nk nk)) (go_keep)
      (first | (go_at_call 23; refine H23.out.mono ?_; rintro e w5 ⟨a4, rfl, hb5, hs5⟩; obtain ⟨f0, f1, f2, f3, f4⟩ := STEP.out w5 hb5; have B5 := hidden hb5; have S5 := hidden hs5; clear hb5 hs5) | (go_at_call 33; refine (H33.out _ _ B5.out S5.out).mono ?_; rintro e w6 ⟨⟨s, rfl, hans⟩, hb6⟩; obtain ⟨j0, j1, j2, j3, j4⟩ := STEP.out w6 hb6; have B6 := hidden hb6; have A6 := hidden hans; clear hb6 hans))
    have BF := hidden (BE.out.trans (B6.out.mono BE.out.size))
    clear STEP H23 H33 e0 e1 e2 e3 e4 f0 f1 f2 f3 f4 j0 j1 j2 j3 j4 B5 S5 B6 BE K4
    have H34 := hidden (tsOfG ag ng cg wA.heap.size g w6 m0 BF.out.size (RG.out.below BF.out (Nat.le_refl _)))
    go_wp2_with fail
    refine H34.out.mono ?_
    rintro e w7 ⟨rfl, hor⟩
    have BG := hidden (BF.out.trans (hor.below.mono BF.out.size))
    have SN := hidden hor.srow
    clear hor H34
    have KG := hidden (RK.out.grow BG.out (Nat.le_refl _) (Nat.le_refl _))
    have H35 := hidden (firstOff35 (some ⟨w6.heap.size, 0, none⟩) ak ng ng nk ck w7.heap.size (fun i => (g i).t) q w7 m0 m3 (Nat.le_refl _) SN.out KG.out)
    go_wp2_with fail
    refine H35.out.mono ?_
    rintro e w8 ⟨⟨r, rfl, hoff⟩, hb8⟩
    have BH := hidden (BG.out.trans (hb8.mono BG.out.size))
    have SH := hidden (SN.out.grow hb8 (Nat.le_refl _) (Nat.le_refl _))
    have KH := hidden (KG.out.grow hb8 (Nat.le_refl _) (Nat.le_refl _))
    clear hb8 H35 SN KG
    have OF := hidden hoff
    rcases hoff with ⟨rfl, _⟩ | ⟨i, hi, rfl, hno, hbe⟩
    · have es := ans_none A6.out OF.out
      subst es
      go_wp2
      go_ret
      exact ⟨by simp, BH.out⟩
    · have NO := hidden hno
      have AB := hidden hbe
      clear hno hbe
      rcases KH.out with h0 | ⟨b, o, rfl, hbh, hc⟩
      · omega
      have c0 : w8.cell? ⟨b, o + i * 6, none⟩ = some (.string (q i).en) := hc i hi 0 (by omega)
      have c1 : w8.cell? ⟨b, o + i * 6 + 1, none⟩ = some (.string (q i).nm) := hc i hi 1 (by omega)
      have c2 : w8.cell? ⟨b, o + i * 6 + 2, none⟩ = some (.string (q i).t.be) := hc i hi 2 (by omega)
      have c3 : w8.cell? ⟨b, o + i * 6 + 3, none⟩ = some (.string (q i).t.ar) := hc i hi 3 (by omega)
      have c4 : w8.cell? ⟨b, o + i * 6 + 4, none⟩ = some (.int .i64 (q i).t.ws) := hc i hi 4 (by omega)
      have c5 : w8.cell? ⟨b, o + i * 6 + 5, none⟩ = some (.string (q i).tv) := hc i hi 5 (by omega)
      clear hc OF
      go_wp2_with fail
      refine (tofK _ _ _ _ _ _ _).mono ?_
      rintro e w9 ⟨rfl, h9⟩
      have hb9 := Below.two (Below.refl w8.heap.size w8) (Nat.le_refl _) h9
      have BI := hidden (BH.out.trans (hb9.mono BH.out.size))
      have H15 := hidden (reason15 (some ⟨w6.heap.size, 0, none⟩) ng ng w8.heap.size (fun i => (g i).t) (q i).t w9 m0 hb9.size (SH.out.below hb9 (Nat.le_refl _)))
      clear h9 hb9 c0 c1 c2 c3 c4 c5
      go_wp2_with fail
      refine H15.out.mono ?_
      rintro e wZ ⟨⟨s', rfl, hwhy⟩, hbZ⟩
      have es := ans_some A6.out hi NO.out AB.out hwhy
      subst es
      have BJ := hidden (BI.out.trans (hbZ.mono BI.out.size))
      clear hbZ hwhy H15
      go_wp2
      go_ret
      exact ⟨by simp, BJ.out⟩
  · have four : (4096 : Int) < ng ∨ ((ng : Int) ≤ 4096 ∧ (65536 : Int) < nf) ∨ ((ng : Int) ≤ 4096 ∧ (nf : Int) ≤ 65536 ∧ (65536 : Int) < nr) ∨ ((ng : Int) ≤ 4096 ∧ (nf : Int) ≤ 65536 ∧ (nr : Int) ≤ 65536 ∧ (4096 : Int) < nk) := by omega
    clear hsm
    rcases four with f0 | ⟨f0, f1⟩ | ⟨f0, f1, f2⟩ | ⟨f0, f1, f2, f3⟩
    all_goals
      go_enter Try.func7, Try.ntmps7
      go_wp2_with fail
      refine HB.out.mono ?_
      rintro e w' ⟨⟨r, rfl⟩, rfl⟩
      cases r
      · go_wp2
        go_ret
        exact ⟨rfl, Below.refl _ _⟩
      · go_wp2_with fail
        go_ret
        exact ⟨rfl, Below.refl _ _⟩

end Go.Proofs.Qxb6605253a
