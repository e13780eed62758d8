/-
  WALK: zzAugmentModel.
-/
import Derived.Test.Qxb6604796aBc
namespace Go.Proofs.Qxb6604796a
open Go.RowKit Af
set_option linter.unusedVariables false

/-- 'make([]int, 0, c)'. -/
theorem make_room (c : Nat) (hc : c ≤ 4096) (w : World) : (Instr.makeSlice 26 (.int .i64 0) (.int .i64 (c : Int))).run Try.prog w = .ok (.slice (some ⟨w.heap.size, 0, none⟩) 0 c) (w.alloc (.cells (madeCells #[.int .i64 0] c) 3)) := by
  obtain ⟨i, hi, hzz⟩ := Option.map_eq_some_iff.1 Try.info3
  simp only [Prod.mk.injEq] at hzz
  obtain ⟨hz, hs, hb⟩ := hzz
  have hr := run_make (P := Try.prog) w 26 3 i (.int .i64 0) Try.underlying26 hi hz .i64 .i64 0 c (Int.le_refl _) (by omega) (by rw [hb]; omega) (by omega)
  simp only [Int.toNat_natCast, hs, Nat.mul_one, Int.toNat_zero] at hr
  exact hr

/-- On the way: e steps to go, from v; q behind. -/
structure PW (n M : Nat) (L : Nat → Nat) (arc : Nat → Nat → Nat) (hed : Nat → Nat) (l : Nat → Int) (sink d s e v : Nat) (q : List Nat) : Prop where
  vlt : v < n
  dst : Dist L arc hed l sink v e
  len : q.length + e = d
  gp : ∀ p', GP L arc hed l sink e v p' → GP L arc hed l sink d s (q ++ p')
  mem : ∀ a, a ∈ q → a < M

section
variable {n M : Nat} {L : Nat → Nat} {arc : Nat → Nat → Nat} {hed : Nat → Nat} {l : Nat → Int} {sink d s e v a : Nat} {q : List Nat}

theorem PW.start (hs : s < n) (hd : Dist L arc hed l sink s d) : PW n M L arc hed l sink d s d s [] := ⟨hs, hd, by simp, fun _ h => h, fun _ h => by cases h⟩

theorem PW.step (h : PW n M L arc hed l sink d s (e + 1) v q) (hg : G L arc hed l sink e v a) (ha : a < M) (hu : hed a < n) : PW n M L arc hed l sink d s e (hed a) (q ++ [a]) := by
  obtain ⟨i, g1, g2, g3, g4, g5⟩ := id hg
  refine ⟨hu, g4, by have := h.len; simp; omega, fun p' hp => ?_, fun b hb => ?_⟩
  · have := h.gp (a :: p') ⟨h.dst, a, p', rfl, hg, hp⟩
    simpa using this
  · rcases List.mem_append.1 hb with hb | hb
    · exact h.mem b hb
    · have : b = a := by simpa using hb
      rw [this]; exact ha

theorem PW.over (h : PW n M L arc hed l sink d s 0 v q) : GP L arc hed l sink d s q := by
  have := h.gp [] ⟨dist_zero.1 h.dst, rfl⟩
  simpa using this
end

theorem qf_mem {q : List Nat} {k : Nat} (h : k < q.length) : qf q k ∈ q := by
  unfold qf
  rw [List.getD_eq_getElem?_getD, List.getElem?_eq_getElem h]
  exact List.getElem_mem h

set_option maxRecDepth 100000 in
set_option maxHeartbeats 4000000 in
theorem model_any (at' ai asx ga : Option Addr) (M ct n ci cs cg ls lo hi Wb : Nat) (A : Nat → Option Addr) (C : Nat → Nat) (L : Nat → Nat) (arc : Nat → Nat → Nat) (hed : Nat → Nat) (sink : Nat) (st : Nat → Nat) (l : Nat → Int) (w : World)
    (net : Net n M L arc hed sink l) (hn : n ≤ 4096) (hM : M ≤ 4096) (hs : ls ≤ 4096) (hL : ∀ v, v < n → L v ≤ 131072) (hhi : hi ≤ w.heap.size) (hWb : hi ≤ Wb)
    (hto : IRow w lo hi at' M (fun a => (hed a : Int))) (hr : IRows w lo hi ai n A L C (fun v i => (arc v i : Int))) (hst : IRow w lo hi asx ls (fun i => (st i : Int))) (hsl : ∀ i, i < ls → st i < n ∧ st i ≠ sink)
    (hga : M = 0 ∨ ga = some ⟨Wb, 0, none⟩) (hw : M = 0 ∨ (Wb < w.heap.size ∧ w.rowIs Wb 39 M (fun i => .int .i8 (l i)))) :
    Calls Try.prog 21 #[.slice at' M ct, .slice ai n ci, .slice ga M cg, .slice asx ls cs, .int .i64 sink] w fun e w' => MdlRet w Wb M L arc hed sink ls st l e w' := by
  have GI : I8 w 0 w.heap.size ga M l := by
    rcases hga with g | rfl
    · exact .inl g
    · rcases hw with g | ⟨g1, g2⟩
      · exact .inl g
      · exact .inr ⟨Wb, 0, rfl, Nat.zero_le _, g1, fun i hi => by rw [Nat.zero_add]; exact g2.cell hi⟩
  have HD := hidden (dist_any at' ai ga M ct n ci cg lo hi 0 w.heap.size A C L arc hed sink l w net hn hM hL hhi (Nat.le_refl _) hto hr GI)
  have NET := hidden net
  have HL := hidden hL
  have TO := hidden hto
  have HR := hidden hr
  have HST := hidden hst
  have HSL := hidden hsl
  have HW := hidden hw
  have TT : Hid (∀ v, v < n → ∀ i, i < L v → hed (arc v i) < n) := fun v hv i hi => net.tolt _ (net.arclt v hv i hi)
  clear net hL hto hr hst hsl hw GI
  go_enter Try.func21, Try.ntmps21
  go_wp2_with fail
  refine HD.out.mono ?_
  rintro e w1 ⟨rfl, δ, hD, hdf⟩
  have DD := hidden hD
  have DF := hidden hdf
  have ST1 := hidden (HST.out.below hD.below hhi)
  have CD : Hid (∀ v, v < n → w1.cell? ⟨w.heap.size, v, none⟩ = some (.int .i64 (δ v))) := fun v hv => hD.row.cell hv
  have hbig := hD.big
  clear hD hdf HD
  go_wp2
  go_loop [12, 13] (fun f i => ∃ k : Nat, k ≤ ls ∧ f = .int .i64 (-1) ∧ i = .int .i64 k ∧ ∀ j, j < k → δ (st j) < 0) (fun _ i => ls - (intOf i).toNat)
  case atStart => exact ⟨0, Nat.zero_le _, rfl, rfl, fun j h => absurd h (Nat.not_lt_zero _)⟩
  case round =>
    obtain ⟨k, hk, rfl, rfl, hneg⟩ := hrel
    have NG := hidden hneg
    clear hneg
    by_cases hlt : k < ls
    · rcases ST1.out with h0 | ⟨sb, so, rfl, _, _, sc⟩
      · omega
      have c1 : w1.cell? ⟨sb, so + k, none⟩ = some (.int .i64 ((st k : Nat) : Int)) := sc k hlt
      obtain ⟨hsn, hsk⟩ := HSL.out k hlt
      have c2 := CD.out _ hsn
      obtain ⟨s, hse⟩ : ∃ s, s = st k := ⟨_, rfl⟩
      rw [← hse] at c1 c2 hsn hsk
      have HSE := hidden hse
      clear sc hse
      by_cases hd : δ s < 0
      · have NX : Hid (∀ j, j < k + 1 → δ (st j) < 0) := fun j hj => by
          by_cases e : j = k
          · subst e; rw [← HSE.out]; exact hd
          · exact NG.out j (by omega)
        go_wp2
        go_round
        case rel => exact ⟨k + 1, by omega, rfl, by go_num, NX.out⟩
        case measure => simp [intOf]; omega
      · obtain ⟨d, hde⟩ := Int.eq_ofNat_of_zero_le (show 0 ≤ δ s by omega)
        rw [hde] at c2
        have hdd : Dist L arc hed l sink s d := (DF.out.iff hsn d).2 hde
        have hdn := dist_lt TT.out hsn hdd
        have hmk := make_room d (by omega)
        have M0 := hidden (MP.start DD.out HW.out d (by unfold maxLen; omega))
        have P0 := hidden (PW.start (M := M) hsn hdd)
        clear hd hde hdd CD ST1 HW DD
        go_wp2
        go_loopw [14, 15, 16] (fun pv cv sv wr => ∃ (e v : Nat) (q : List Nat) (qa : Option Addr) (qc : Nat), pv = .slice qa q.length qc ∧ cv = .int .i64 v ∧ sv = .int .i64 e ∧ MP w Wb n M δ l (.slice qa q.length qc) q wr ∧ PW n M L arc hed l sink d s e v q) (fun _ _ sv _ => (intOf sv).toNat)
        case atStart => exact ⟨d, s, [], _, _, rfl, rfl, rfl, M0.out, P0.out⟩
        case round =>
          obtain ⟨e, v, q, qa, qc, rfl, rfl, rfl, hMP, hPW⟩ := hrel
          have MM := hidden hMP
          have PP := hidden hPW
          have hlen := hPW.len
          have hvn := hPW.vlt
          clear M0 P0 c1 c2
          by_cases he : e = 0
          · subst he
            have GG := hidden hPW.over
            have PO := hidden (pushOk_fwd NET.out.nonneg NET.out.pair NET.out.tail TT.out d s q l hsn hPW.over (fun b hb => absurd rfl hb))
            have DN : Hid (∀ e l', e = .returned (.bool true) → l' = q.foldl push1 l → Mdl L arc hed sink ls st l l' e) := fun e l' h1 h2 => .inr ⟨h1, k, d, q, hlt, fun i hi k' => DF.out.none (HSL.out i (by omega)).1 (NG.out i hi) k', by rw [← HSE.out]; exact GG.out, h2⟩
            clear hMP hPW
            go_wp2
            go_loopw [20] (fun i wr => ∃ k : Nat, k ≤ q.length ∧ i = .int .i64 k ∧ MPush w Wb n M hed δ (.slice qa q.length qc) q (q.foldl push1 l) k wr) (fun i _ => q.length - (intOf i).toNat)
            case atStart => exact ⟨0, Nat.zero_le _, rfl, l, MM.out, PO.out, rfl⟩
            case round =>
              obtain ⟨k2, hk2, rfl, l', hMP, hpo, hfin⟩ := hrel
              clear MM PO
              by_cases hlt2 : k2 < q.length
              · obtain ⟨a, hae⟩ : ∃ a, a = qf q k2 := ⟨_, rfl⟩
                have haM : a < M := by rw [hae]; exact PP.out.mem _ (qf_mem hlt2)
                have hxM : x a < M := x_lt haM NET.out.even
                obtain ⟨qg, rfl, cq⟩ := own_cell hMP.own (qf_get hlt2)
                rw [← hae] at cq
                obtain ⟨⟨p1, p2, p3, p4⟩, nx⟩ := MPush.step hMP hpo hfin hlt2 hae (by omega)
                have NX := hidden nx
                obtain rfl := hga.resolve_left (by omega)
                obtain ⟨e1, e2⟩ := hMP.leftAt haM
                obtain ⟨e3, e4⟩ := hMP.leftAt hxM
                have hbx := bits_x a (by omega)
                have hxa : ¬ (x a = a) := x_ne a
                have hax : ¬ (a = x a) := fun e => x_ne a e.symm
                clear nx hMP hpo hfin hae
                obtain ⟨y, hy⟩ : ∃ y, y = x a := ⟨_, rfl⟩
                rw [← hy] at hxM hbx hxa hax e3 e4 p3 p4 NX
                clear hy
                go_wp2
                go_roundw
                case rel => exact ⟨k2 + 1, by omega, by go_num, NX.out _ _ rfl rfl⟩
                case measure => simp [intOf]; omega
              · have e : k2 = q.length := by omega
                subst e
                have FF : Hid (l' = q.foldl push1 l) := by
                  rw [List.drop_length] at hfin; exact hidden hfin
                have MM := hidden hMP
                clear hMP hpo hfin
                go_wp2
                go_ret
                exact ⟨l', MM.out.grown, MM.out.wnt, DN.out _ _ rfl FF.out⟩
          · obtain ⟨e', hee⟩ : ∃ e', e = e' + 1 := ⟨e - 1, by omega⟩
            have HEE := hidden hee
            have he0 : 0 < e := by omega
            have hed0 : decide (0 < e) = true := decide_eq_true he0
            have he1 : (e : Int) ≤ 4096 := by omega
            rcases (MM.out.irows HR.out hhi hWb) with h0 | ⟨ab, ao, rfl, _, hab, hrows⟩
            · omega
            obtain ⟨av, cvv, hav⟩ : ∃ av cv, A v = av ∧ C v = cv := ⟨_, _, rfl, rfl⟩
            have hrow0 : IRow w lo hi av (L v) (fun i => (arc v i : Int)) := by
              rcases HR.out with h0 | ⟨_, _, _, _, _, hrows'⟩
              · omega
              · have := (hrows' v hvn).2.2.2
                rw [hav.1] at this; exact this
            have CK : Hid (∀ w6 l6 qv6 q6, MP w Wb n M δ l6 qv6 q6 w6 → w6.cell? ⟨ab, ao + v, none⟩ = some (.slice av (L v) cvv)) := fun w6 l6 qv6 q6 h => by
              have h1 := (hrows v hvn).1
              rw [hav.1, hav.2] at h1
              have h2 : w6.heap[ab]? = wr.heap[ab]? := by
                rw [h.grown.block ab (by omega) (fun e => by have : ab = Wb := by simpa using e
                                                             omega), MM.out.grown.block ab (by omega) (fun e => by have : ab = Wb := by simpa using e
                                                                                                                   omega)]
              rw [World.cell?_of_block (a := ⟨ab, ao + v, none⟩) h2]; exact h1
            have RK := hidden hrow0
            have hlv := HL.out v hvn
            have hdv : δ v = (e : Int) := (DF.out.iff hvn _).1 hPW.dst
            have hlq : q.length ≤ 4096 := by omega
            have PE : Hid (PW n M L arc hed l sink d s (e' + 1) v q) := by rw [← hee]; exact PP.out
            clear hrows hav hrow0 hMP hPW he hee hlen PP
            have crow := CK.out _ _ _ _ MM.out
            go_wp2
            go_loopw [17, 18] (fun nv i w6 => ∃ j : Nat, j ≤ L v ∧ nv = .int .i64 (-1) ∧ i = .int .i64 j ∧ MP w Wb n M δ l (.slice qa q.length qc) q w6 ∧ ∀ i', i' < j → ¬ (l (arc v i') ≠ 0 ∧ Dist L arc hed l sink (hed (arc v i')) e')) (fun _ i _ => L v - (intOf i).toNat)
            case atStart => exact ⟨0, Nat.zero_le _, rfl, rfl, MM.out, fun i h => absurd h (Nat.not_lt_zero _)⟩
            case round =>
              obtain ⟨j, hj, rfl, rfl, hMP, hno⟩ := hrel
              clear crow MM
              have MM := hidden hMP
              have NO := hidden hno
              have crow := CK.out _ _ _ _ hMP
              by_cases hjl : j < L v
              · rcases (hMP.irow RK.out hhi hWb) with h0 | ⟨rb, ro, rfl, _, _, hcells⟩
                · omega
                have cu : wr.cell? ⟨rb, ro + j, none⟩ = some (.int .i64 ((arc v j : Nat) : Int)) := hcells j hjl
                have hal := NET.out.arclt v hvn j hjl
                have hun := TT.out v hvn j hjl
                rcases (hMP.irow TO.out hhi hWb) with h0 | ⟨tb, tto, rfl, _, htb, tc⟩
                · omega
                have ct0 : wr.cell? ⟨tb, tto + arc v j, none⟩ = some (.int .i64 ((hed (arc v j) : Nat) : Int)) := tc _ hal
                obtain rfl := hga.resolve_left (by omega)
                obtain ⟨cg0, _⟩ := hMP.leftAt hal
                have b1 := NET.out.nonneg (arc v j)
                have b2 : l (arc v j) ≤ 127 := by have := NET.out.pair (arc v j); have := NET.out.nonneg (x (arc v j)); omega
                have xu := hMP.dst.cell hun
                have xv := hMP.dst.cell hvn
                have IFF := hidden (DF.out.iff hun e')
                have lu := DF.out.lo _ hun
                rw [hdv] at xv
                obtain ⟨a, hae⟩ : ∃ a, a = arc v j := ⟨_, rfl⟩
                rw [← hae] at cu hal hun ct0 cg0 b1 b2 xu IFF lu
                obtain ⟨u, hue⟩ : ∃ u, u = hed a := ⟨_, rfl⟩
                rw [← hue] at hun ct0 xu IFF lu
                obtain ⟨z, hze⟩ : ∃ z, z = δ u := ⟨_, rfl⟩
                rw [← hze] at xu IFF lu
                have HAE := hidden hae
                have HUE := hidden hue
                clear hcells tc hae hue hze hno hMP hdv
                by_cases hp : 0 < l a
                · have hd1 : decide (0 < l a) = true := decide_eq_true hp
                  by_cases hz : z = (e' : Int)
                  · have hg : G L arc hed l sink e' v a := ⟨j, hjl, HAE.out.symm, by omega, by rw [← HUE.out]; exact IFF.out.2 hz, NO.out⟩
                    have PN := hidden (PE.out.step hg hal (by rw [← HUE.out]; exact hun))
                    rw [← HUE.out] at PN
                    have CT : Hid (∀ w6 l6 qv6 q6, MP w Wb n M δ l6 qv6 q6 w6 → w6.cell? ⟨tb, tto + a, none⟩ = some (.int .i64 (u : Int))) := fun w6 l6 qv6 q6 h => by
                      rcases (h.irow TO.out hhi hWb) with h0 | ⟨tb', tto', htt, _, _, tc⟩
                      · omega
                      · have : tb = tb' ∧ tto = tto' := by simpa using htt
                        obtain ⟨rfl, rfl⟩ := this
                        have := tc a hal
                        rw [HUE.out]; exact this
                    have hzb : (z == (e : Int) - 1) = true := by
                      have := HEE.out
                      rw [beq_iff_eq]; omega
                    clear hg hz
                    go_wp2
                    go_quiet (fail)
                    obtain ⟨w7, hw7⟩ : ∃ w7 : World, w7 = wr.drewN nq := ⟨_, rfl⟩
                    have M7 : MP w Wb n M δ l (.slice qa q.length qc) q w7 := by rw [hw7]; exact MM.out.drewN _
                    rw [← hw7]
                    have OWN := hidden (World.ownsRow.alloc M7.own (.cells #[.int .i64 (a : Int)] 3))
                    have SZ := hidden M7.big
                    have AD : Hid (∀ g cap w2, (w7.alloc (.cells #[.int .i64 (a : Int)] 3)).grownBy w2 (Value.slice qa q.length qc).ownBlock → w2.ownsRow (w.heap.size + 1) 3 1 (.slice (some ⟨g, 0, none⟩) (q.length + 1) cap) (q.length + 1) (ints q ++ [.int .i64 (a : Int)]) → MP w Wb n M δ l (.slice (some ⟨g, 0, none⟩) (q.length + 1) cap) (q ++ [a]) w2) := fun g cap w2 h1 h2 => M7.add _ h1 h2
                    have HN := hidden (cell_one_new w7 (.int .i64 (a : Int)) 3)
                    obtain ⟨i3, hi3, hz0, hz1, hz2⟩ := info_parts Try.info3
                    clear M7 hw7 MM crow cu ct0 cg0 xu xv
                    go_upto_region 24 with fail
                    go_wp2_with (at_builtin; refine wpList_append_lies _ (by rfl) (.tmp 100) (.tmp 102) 26 (by rfl) (w.heap.size + 1) 3 i3 (.int .i64 0) 1 8 Try.underlying26 hi3 hz0 hz1 hz2 rfl (by omega) (.slice qa q.length qc) q.length (ints q) (by rfl) OWN.out ⟨w7.heap.size, 0, none⟩ 1 1 [.int .i64 (a : Int)] (by rfl) rfl HN.out (by intro x hx; simp at hx; rw [hx]; rfl) (by omega) (by unfold maxLen; omega) (by omega) (by have := SZ.out; simp; omega) (w7.heap.size + 1) (by simp) ?_; intro g cap w2 hown hgrow hat hlt; have M8 := hidden (AD.out g cap w2 hgrow hown); have ct2 := CT.out _ _ _ _ M8.out; clear hown hgrow hat hlt)
                    go_roundw
                    case rel => exact ⟨e', u, q ++ [a], _, _, by rw [List.length_append]; rfl, rfl, by have := HEE.out; go_num, by rw [List.length_append]; exact M8.out, PN.out⟩
                    case measure => have := HEE.out; simp [intOf]; omega
                  · have NX : Hid (∀ i', i' < j + 1 → ¬ (l (arc v i') ≠ 0 ∧ Dist L arc hed l sink (hed (arc v i')) e')) := fun i' hi' => by
                      by_cases e : i' = j
                      · subst e; rw [← HAE.out, ← HUE.out]; exact fun h => hz (IFF.out.1 h.2)
                      · exact NO.out i' (by omega)
                    have hzb : (z == (e : Int) - 1) = false := by
                      have := HEE.out
                      rw [beq_eq_false_iff_ne]; omega
                    clear hz
                    go_wp2
                    go_quiet (fail)
                    go_wp2
                    go_roundw
                    case rel => exact ⟨j + 1, by omega, rfl, by go_num, MM.out.drewN _, NX.out⟩
                    case measure => simp [intOf]; omega
                · have hd1 : decide (0 < l a) = false := decide_eq_false hp
                  have NX : Hid (∀ i', i' < j + 1 → ¬ (l (arc v i') ≠ 0 ∧ Dist L arc hed l sink (hed (arc v i')) e')) := fun i' hi' => by
                    by_cases e : i' = j
                    · subst e; rw [← HAE.out]; exact fun h => h.1 (by omega)
                    · exact NO.out i' (by omega)
                  go_wp2
                  go_quiet (fail)
                  go_wp2
                  go_roundw
                  case rel => exact ⟨j + 1, by omega, rfl, by go_num, MM.out.drewN _, NX.out⟩
                  case measure => simp [intOf]; omega
              · have e : L v = j := by omega
                subst e
                obtain ⟨i, h1, h2, h3⟩ := PE.out.dst.down
                exact absurd ⟨h2, h3⟩ (NO.out i h1)
    · have e : ls = k := by omega
      subst e
      have FW : Hid (M = 0 ∨ (Wb < w.heap.size ∧ w1.rowIs Wb 39 M (fun i => .int .i8 (l i)))) := by
        rcases HW.out with g | ⟨g1, g2⟩
        · exact .inl g
        · exact .inr ⟨g1, g2.of_block (DD.out.below.block Wb g1)⟩
      go_wp2
      go_ret
      exact ⟨l, grown_of_below DD.out.below (Nat.le_refl _), FW.out, .inl ⟨rfl, rfl, fun i hi k' => DF.out.none (HSL.out i hi).1 (NG.out i hi) k'⟩⟩

end Go.Proofs.Qxb6604796a
