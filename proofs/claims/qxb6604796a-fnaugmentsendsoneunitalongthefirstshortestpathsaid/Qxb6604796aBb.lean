/-
  WALK: zzFlowDistToSink.
-/
import Derived.Test.Qxb6604796aBa
import Derived.Test.Qxb6604796aFq
namespace Go.Proofs.Qxb6604796a
open Go.RowKit Af
set_option linter.unusedVariables false

/-- The row of distances. -/
structure D1 (w : World) (n : Nat) (δ : Nat → Int) (wr : World) : Prop where
  below : Below w.heap.size w wr
  big : w.heap.size < wr.heap.size
  row : wr.rowIs w.heap.size 3 n (fun i => .int .i64 (δ i))

theorem D1.set {w : World} {n : Nat} {δ : Nat → Int} {wr : World} (h : D1 w n δ wr) (u : Nat) (c : Int) : D1 w n (fun i => if i = u then c else δ i) (wr.setCell ⟨w.heap.size, u, none⟩ (.int .i64 c)) := by
  refine ⟨h.below.setCell (Nat.le_refl _) _, by have := h.big; simpa [World.setCell] using this, (h.row.set u _).congr fun i _ => ?_⟩
  by_cases e : i = u <;> simp [e]

theorem D1.congr {w : World} {n : Nat} {δ δ' : Nat → Int} {wr : World} (h : D1 w n δ wr) (e : ∀ i, i < n → δ i = δ' i) : D1 w n δ' wr := ⟨h.below, h.big, h.row.congr fun i hi => by rw [e i hi]⟩

theorem D1.start (w : World) (n : Nat) : D1 w n (fun _ => 0) (w.alloc (.cells (madeCells #[.int .i64 0] n) 3)) :=
  ⟨(Below.refl _ _).alloc (Nat.le_refl _) _, by simp, World.rowIs_made w _ _ _⟩

theorem D1.drewN {w : World} {n : Nat} {δ : Nat → Int} {wr : World} (h : D1 w n δ wr) (k : Nat) : D1 w n δ (wr.drewN k) := by
  have hb : (wr.drewN k).heap = wr.heap := by
    induction k with
    | zero => rfl
    | succ k ih => exact ih
  exact ⟨below_drewN h.below k, by rw [hb]; exact h.big, h.row.of_block (by rw [hb])⟩

theorem d1_sink {n sink : Nat} {w : World} {wr : World} (h : D1 w n (fun v => if v < n then -1 else 0) wr) : D1 w n (fun v => if v = sink then 0 else -1) (wr.setCell ⟨w.heap.size, sink, none⟩ (.int .i64 0)) :=
  (h.set sink 0).congr fun i hi => by simp [hi]

set_option maxRecDepth 100000 in
set_option maxHeartbeats 4000000 in
theorem dist_any (at' ai ga : Option Addr) (M ct n ci cg lo hi lo2 hi2 : Nat) (A : Nat → Option Addr) (C : Nat → Nat) (L : Nat → Nat) (arc : Nat → Nat → Nat) (hed : Nat → Nat) (sink : Nat) (l : Nat → Int) (w : World)
    (net : Net n M L arc hed sink l) (hn : n ≤ 4096) (hM : M ≤ 4096) (hL : ∀ v, v < n → L v ≤ 131072) (hhi : hi ≤ w.heap.size) (hhi2 : hi2 ≤ w.heap.size)
    (hto : IRow w lo hi at' M (fun a => (hed a : Int))) (hr : IRows w lo hi ai n A L C (fun v i => (arc v i : Int))) (hg : I8 w lo2 hi2 ga M l) :
    Calls Try.prog 35 #[.slice at' M ct, .slice ai n ci, .slice ga M cg, .int .i64 sink] w fun e w' => e = .returned (.slice (some ⟨w.heap.size, 0, none⟩) n n) ∧ ∃ δ, D1 w n δ w' ∧ Df n L arc hed l sink δ := by
  have hmk := run_make_row' (P := Try.prog) 26 3 (.int .i64 0) 8 Try.underlying26 Try.info3 rfl .i64 .i64 n (by omega) (by omega)
  have hsn := net.snk
  have NET := hidden net
  have HL := hidden hL
  have TO := hidden hto
  have HR := hidden hr
  have GO := hidden hg
  have TT : Hid (∀ v, v < n → ∀ i, i < L v → hed (arc v i) < n) := fun v hv i hi => net.tolt _ (net.arclt v hv i hi)
  clear net hL hto hr hg
  go_enter Try.func35, Try.ntmps35
  go_wp2
  go_loopw [11] (fun i wr => ∃ k : Nat, k ≤ n ∧ i = .int .i64 k ∧ D1 w n (fun v => if v < k then -1 else 0) wr) (fun i _ => n - (intOf i).toNat)
  case atStart => exact ⟨0, Nat.zero_le _, rfl, (D1.start w n).congr fun i _ => by simp⟩
  case round =>
    obtain ⟨k, hk, rfl, hD⟩ := hrel
    have DD := hidden hD
    by_cases hlt : k < n
    · have xv := hD.row.cell hlt
      have fv := hD.row.frozen k
      clear hD
      go_wp2
      go_roundw
      case rel => exact ⟨k + 1, by omega, by go_num, (DD.out.set k (-1)).congr fun i _ => by
        by_cases e : i = k
        · simp [e]
        · simp only [e, if_false]
          by_cases g : i < k
          · rw [if_pos g, if_pos (by omega)]
          · rw [if_neg g, if_neg (by omega)]⟩
      case measure => simp [intOf]; omega
    · have e : n = k := by omega
      subst e
      have xv := hD.row.cell hsn
      have fv := hD.row.frozen sink
      have D0 := hidden (d1_sink (sink := sink) hD)
      clear hD DD
      go_wp2
      go_loopw [12] (fun i wr => ∃ (r : Nat) (δ : Nat → Int), r ≤ n ∧ i = .int .i64 r ∧ D1 w n δ wr ∧ Br n L arc hed l sink δ r) (fun i _ => n - (intOf i).toNat)
      case atStart => exact ⟨0, _, Nat.zero_le _, rfl, D0.out, Br.start⟩
      case round =>
        obtain ⟨r, δ, hrn, rfl, hD, hI⟩ := hrel
        have DD := hidden hD
        have II := hidden hI
        clear hD hI D0
        by_cases hlt2 : r < n
        · obtain ⟨wo, rfl⟩ : ∃ wo : World, wo = wr := ⟨_, rfl⟩
          go_wp2
          go_loopw [13, 14] (fun cv i w5 => ∃ (k : Nat) (δ : Nat → Int) (c : Bool), k ≤ n ∧ cv = .bool c ∧ i = .int .i64 k ∧ D1 w n δ w5 ∧ Bl n L arc hed l sink δ r c k 0) (fun _ i _ => n - (intOf i).toNat)
          case atStart => exact ⟨0, δ, false, Nat.zero_le _, rfl, rfl, DD.out, Bl.start II.out⟩
          case round =>
            obtain ⟨k, δ, c, hkn, rfl, rfl, hD, hB⟩ := hrel
            have DD := hidden hD
            have QQ := hidden hB
            clear II
            by_cases hk2 : k < n
            · obtain ⟨w5, rfl⟩ : ∃ w5 : World, w5 = wr := ⟨_, rfl⟩
              rcases (HR.out.below DD.out.below hhi) with h0 | ⟨ab, ao, rfl, _, hab, hrows⟩
              · omega
              · obtain ⟨av, cvv, hav⟩ : ∃ av cv, A k = av ∧ C k = cv := ⟨_, _, rfl, rfl⟩
                have crow0 : w.cell? ⟨ab, ao + k, none⟩ = some (.slice av (L k) cvv) := by
                  have := (hrows k hk2).1
                  rw [DD.out.below.cell (p := ⟨ab, ao + k, none⟩) (show ab < w.heap.size by omega), hav.1, hav.2] at this
                  exact this
                have hrow0 : IRow w lo hi av (L k) (fun i => (arc k i : Int)) := by
                  rcases HR.out with h0 | ⟨_, _, _, _, _, hrows'⟩
                  · omega
                  · have := (hrows' k hk2).2.2.2
                    rw [hav.1] at this; exact this
                have RK := hidden hrow0
                have CK := hidden crow0
                have hlk := HL.out k hk2
                clear hrows hav hrow0 crow0 hD hB
                go_wp2
                go_loopw [13, 15] (fun cv i w6 => ∃ (j : Nat) (δ : Nat → Int) (c : Bool), j ≤ L k ∧ cv = .bool c ∧ i = .int .i64 j ∧ D1 w n δ w6 ∧ Bl n L arc hed l sink δ r c k j) (fun _ i _ => L k - (intOf i).toNat)
                case atStart => exact ⟨0, δ, c, Nat.zero_le _, rfl, rfl, DD.out, QQ.out⟩
                case round =>
                  obtain ⟨j, δ, c, hj, rfl, rfl, hD, hB⟩ := hrel
                  have DD := hidden hD
                  have QQ := hidden hB
                  have crow : wr.cell? ⟨ab, ao + k, none⟩ = some (.slice av (L k) cvv) := by rw [hD.below.cell (p := ⟨ab, ao + k, none⟩) (show ab < w.heap.size by omega)]; exact CK.out
                  by_cases hjl : j < L k
                  · rcases (RK.out.below hD.below hhi) with h0 | ⟨rb, ro, rfl, _, _, hcells⟩
                    · omega
                    · have cu : wr.cell? ⟨rb, ro + j, none⟩ = some (.int .i64 ((arc k j : Nat) : Int)) := hcells j hjl
                      have hal := NET.out.arclt k hk2 j hjl
                      have hun := TT.out k hk2 j hjl
                      rcases (TO.out.below hD.below hhi) with h0 | ⟨tb, tto, rfl, _, _, tc⟩
                      · omega
                      rcases (GO.out.below hD.below hhi2) with h0 | ⟨gb, gof, rfl, _, _, gc⟩
                      · omega
                      have ct0 : wr.cell? ⟨tb, tto + arc k j, none⟩ = some (.int .i64 ((hed (arc k j) : Nat) : Int)) := tc _ hal
                      have cg0 := gc _ hal
                      have b1 := NET.out.nonneg (arc k j)
                      have b2 : l (arc k j) ≤ 127 := by have := NET.out.pair (arc k j); have := NET.out.nonneg (x (arc k j)); omega
                      have lq := hB.lo _ hun
                      have lp := hB.lo k hk2
                      have xq := hD.row.cell hun
                      have xp := hD.row.cell hk2
                      have fp := hD.row.frozen k
                      have SK := hidden (QQ.out.skip hun)
                      have UP := hidden (QQ.out.upd hk2 hjl hun)
                      obtain ⟨a, hae⟩ : ∃ a, a = arc k j := ⟨_, rfl⟩
                      rw [← hae] at cu hal hun ct0 cg0 b1 b2 lq xq SK UP
                      obtain ⟨u, hue⟩ : ∃ u, u = hed a := ⟨_, rfl⟩
                      rw [← hue] at hun ct0 lq xq SK UP
                      obtain ⟨z, hze⟩ : ∃ z, z = δ u := ⟨_, rfl⟩
                      rw [← hze] at lq xq SK UP
                      obtain ⟨y, hye⟩ : ∃ y, y = δ k := ⟨_, rfl⟩
                      rw [← hye] at lp xp SK UP
                      have z0 : -1 ≤ z := lq.1
                      have z1 : z ≤ 4398046511104 := by omega
                      have y0 : -1 ≤ y := lp.1
                      have y1 : y ≤ 4398046511104 := by omega
                      clear hcells hD hB tc gc hae hue hze hye lq lp
                      by_cases hp : 0 < l a
                      · by_cases hz : z < 0
                        · have NX := hidden (SK.out fun _ h => absurd h (by omega))
                          clear SK UP
                          go_wp2
                          go_roundw
                          case rel => exact ⟨j + 1, δ, c, by omega, rfl, by go_num, DD.out, NX.out⟩
                          case measure => simp [intOf]; omega
                        · by_cases hy : y < 0
                          · have NX := hidden (UP.out (by omega) (by omega) (.inl hy))
                            have hd1 : decide (y < 0) = true := decide_eq_true hy
                            clear SK UP
                            go_wp2
                            go_quiet (fail)
                            go_wp2
                            go_roundw
                            case rel => exact ⟨j + 1, _, true, by omega, rfl, by go_num, (DD.out.drewN _).set k (z + 1), NX.out⟩
                            case measure => simp [intOf]; omega
                          · have hd1 : decide (y < 0) = false := decide_eq_false hy
                            by_cases hzy : z + 1 < y
                            · have NX := hidden (UP.out (by omega) (by omega) (.inr hzy))
                              have hd2 : decide (z + 1 < y) = true := decide_eq_true hzy
                              clear SK UP
                              go_wp2
                              go_quiet (fail)
                              go_wp2
                              go_roundw
                              case rel => exact ⟨j + 1, _, true, by omega, rfl, by go_num, (DD.out.drewN _).set k (z + 1), NX.out⟩
                              case measure => simp [intOf]; omega
                            · have NX := hidden (SK.out fun _ _ => ⟨by omega, by omega⟩)
                              have hd2 : decide (z + 1 < y) = false := decide_eq_false hzy
                              clear SK UP
                              go_wp2
                              go_quiet (fail)
                              go_wp2
                              go_roundw
                              case rel => exact ⟨j + 1, δ, c, by omega, rfl, by go_num, DD.out.drewN _, NX.out⟩
                              case measure => simp [intOf]; omega
                      · have NX := hidden (SK.out fun h _ => absurd (show l a = 0 by omega) h)
                        clear SK UP
                        go_wp2
                        go_roundw
                        case rel => exact ⟨j + 1, δ, c, by omega, rfl, by go_num, DD.out, NX.out⟩
                        case measure => simp [intOf]; omega
                  · have e : L k = j := by omega
                    subst e
                    have NX := hidden (QQ.out.row hk2 hlk)
                    clear hD hB
                    go_wp2
                    go_roundw
                    case rel => exact ⟨k + 1, δ, c, by omega, rfl, by go_num, DD.out, NX.out⟩
                    case measure => simp [intOf]; omega
            · have e : n = k := by omega
              subst e
              clear hD hB
              cases c
              · have FI := hidden (QQ.out.fin TT.out)
                go_wp2
                go_ret
                exact ⟨rfl, δ, DD.out, FI.out⟩
              · have NX := hidden (QQ.out.next hn)
                go_wp2
                go_roundw
                case rel => exact ⟨r + 1, δ, by omega, by go_num, DD.out, NX.out⟩
                case measure => simp [intOf]; omega
        · have e : n = r := by omega
          subst e
          have FI := hidden (II.out.fin TT.out)
          go_wp2
          go_ret
          exact ⟨rfl, δ, DD.out, FI.out⟩

end Go.Proofs.Qxb6604796a
