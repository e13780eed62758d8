/-
  WALKS: zzBackwardReach.
-/
import Derived.Test.Qxb6604796aR1
namespace Go.Proofs.Qxb6604796a
open Go.RowKit Mt

theorem Try.info4 : (Try.prog.info? 4).map (fun i => (i.zero, i.size, i.bytes)) = some (some (.bool false), 1, 1) := by kernel_rfl

theorem pk_succ_or {Z : Nat → Int} {k v : Nat} {P : Nat → Prop} (hv : Z k = (v : Int)) (u : Nat) : (Pk Z (k + 1) u ∨ P u) ↔ (u = v ∨ (Pk Z k u ∨ P u)) := by
  rw [Pk.succ hv, or_assoc]

/-- One more node is reached. -/
theorem RI.mark {n : Nat} {L : Nat → Nat} {Z : Nat → Nat → Int} {half blk : Nat → Prop} {ρ : Nat → Bool} {r u v : Nat} (I : RI n L Z half blk ρ r) (hun : u < n) (hv : v < n) (hrv : ρ v = true) (hin : Mt.In L Z v u) (hb : ¬ blk u) (h0 : ρ u = false) :
    RI n L Z half blk (fun i => if i = u then true else ρ i) r ∧ falses (fun i => if i = u then true else ρ i) n + (r + 1) ≤ n := by
  have hf := falses_set h0 n hun
  have := I.few
  refine ⟨⟨fun w hw => ?_, fun w hw hr => ?_, by omega⟩, by omega⟩
  · obtain ⟨g1, g2⟩ := I.hlf w hw
    refine ⟨g1, ?_⟩
    split
    · rfl
    · exact g2
  · by_cases e : w = u
    · subst e; exact (I.sound v hv hrv).step hin hb
    · simp only [e, if_false] at hr; exact I.sound w hw hr

/-- Within a round: 'c': has anything changed? -/
structure RR (n : Nat) (L : Nat → Nat) (Z : Nat → Nat → Int) (half blk : Nat → Prop) (ρ : Nat → Bool) (r : Nat) (c : Bool) (k : Nat) : Prop where
  ri : RI n L Z half blk ρ r
  yes : c = true → falses ρ n + (r + 1) ≤ n
  no : c = false → ∀ v, v < k → ρ v = true → Closed Z blk ρ v (L v)

theorem RR.start {n : Nat} {L : Nat → Nat} {Z : Nat → Nat → Int} {half blk : Nat → Prop} {ρ : Nat → Bool} {r : Nat} (h : RI n L Z half blk ρ r) : RR n L Z half blk ρ r false 0 :=
  ⟨h, fun h => (by cases h), fun _ v h => absurd h (Nat.not_lt_zero _)⟩

theorem RR.skip {n : Nat} {L : Nat → Nat} {Z : Nat → Nat → Int} {half blk : Nat → Prop} {ρ : Nat → Bool} {r k : Nat} {c : Bool} (h : RR n L Z half blk ρ r c k) (hk : ρ k = true → c = false → Closed Z blk ρ k (L k)) : RR n L Z half blk ρ r c (k + 1) :=
  ⟨h.ri, h.yes, fun hc v hv hr => by
    by_cases e : v = k
    · subst e; exact hk hr hc
    · exact h.no hc v (by omega) hr⟩

theorem RR.next {n : Nat} {L : Nat → Nat} {Z : Nat → Nat → Int} {half blk : Nat → Prop} {ρ : Nat → Bool} {r : Nat} (h : RR n L Z half blk ρ r true n) : RI n L Z half blk ρ (r + 1) :=
  ⟨h.ri.hlf, h.ri.sound, h.yes rfl⟩

set_option maxRecDepth 100000 in
set_option maxHeartbeats 4000000 in
theorem back_any (ai a1 a2 a3 : Option Addr) (n ci lt ct la ca lb cb : Nat) (lo hi : Nat) (A : Nat → Option Addr) (L C : Nat → Nat) (Z : Nat → Nat → Int) (Zt Za Zb : Nat → Int) (w : World)
    (hn : n ≤ 4096) (h1 : lt ≤ 65536) (h2 : la ≤ 65536) (h3 : lb ≤ 65536) (hL : ∀ v, v < n → L v ≤ 131072) (hhi : hi ≤ w.heap.size)
    (hr : IRows w lo hi ai n A L C Z) (r1 : IRow w lo hi a1 lt Zt) (r2 : IRow w lo hi a2 la Za) (r3 : IRow w lo hi a3 lb Zb)
    (g0 : ∀ v, v < n → ∀ i, i < L v → 0 ≤ Z v i ∧ Z v i < n) (g1 : ∀ i, i < lt → 0 ≤ Zt i ∧ Zt i < n) (g2 : ∀ i, i < la → 0 ≤ Za i ∧ Za i < n) (g3 : ∀ i, i < lb → 0 ≤ Zb i ∧ Zb i < n) :
    Calls Try.prog 37 #[.slice ai n ci, .slice a1 lt ct, .slice a2 la ca, .slice a3 lb cb] w fun e w' => e = .returned (.slice (some ⟨w.heap.size + 1, 0, none⟩) n n) ∧ ∃ β ρ, BR w n β ρ w' ∧ ∀ u, u < n → (ρ u = true ↔ Mt.Reach L Z (Pk Zt lt) (fun u => Pk Zb lb u ∨ Pk Za la u) u) := by
  have hmk := run_make_row' (P := Try.prog) 40 4 (.bool false) 1 Try.underlying40 Try.info4 rfl .i64 .i64 n (by omega) (by omega)
  have HR := hidden hr
  have HL := hidden hL
  have R1 := hidden r1
  have R2 := hidden r2
  have R3 := hidden r3
  have G0 := hidden g0
  have G1 := hidden g1
  have G2 := hidden g2
  have G3 := hidden g3
  have HIN : Hid (∀ v u, v < n → Mt.In L Z v u → u < n) := fun v u hv ⟨i, h1, h2⟩ => by have := g0 v hv i h1; omega
  clear hr hL r1 r2 r3 g0 g1 g2 g3
  go_enter Try.func37, Try.ntmps37
  go_wp2
  go_loopw [11] (fun i wr => ∃ (k : Nat) (β : Nat → Bool), k ≤ la ∧ i = .int .i64 k ∧ B1 w n β wr ∧ Says n β (Pk Za k)) (fun i _ => la - (intOf i).toNat)
  case atStart => exact ⟨0, _, Nat.zero_le _, rfl, B1.start w n, fun u _ => ⟨fun h => (by cases h), fun h => absurd h Pk.zero⟩⟩
  case round =>
    obtain ⟨k, β, hk, rfl, hM, hS⟩ := hrel
    have MM := hidden hM
    have SS := hidden hS
    by_cases hlt : k < la
    · rcases (R2.out.below hM.below hhi) with h0 | ⟨b, o, rfl, _, hb, hc⟩
      · omega
      · have cv := hc k hlt
        have hrg := G2.out k hlt
        obtain ⟨v, hv⟩ := Int.eq_ofNat_of_zero_le hrg.1
        have hvn : v < n := by omega
        have hvk := hidden hv
        rw [hv] at cv
        have xv := hM.blk.cell hvn
        have fv := hM.blk.frozen v
        clear hM hS hc hv hrg
        go_wp2
        go_roundw
        case rel => exact ⟨k + 1, _, by omega, by go_num, MM.out.set v, SS.out.set v (fun u => Pk.succ hvk.out)⟩
        case measure => simp [intOf]; omega
    · have e : la = k := by omega
      subst e
      clear hM hS

      have M1 := MM
      have S1 := SS
      clear SS MM
      go_wp2
      go_loopw [12] (fun i wr => ∃ (k : Nat) (β : Nat → Bool), k ≤ lb ∧ i = .int .i64 k ∧ B1 w n β wr ∧ Says n β (fun u => Pk Zb k u ∨ Pk Za la u)) (fun i _ => lb - (intOf i).toNat)
      case atStart => exact ⟨0, _, Nat.zero_le _, rfl, M1.out, fun u hu => ⟨fun h => .inr ((S1.out u hu).1 h), fun h => (S1.out u hu).2 (h.resolve_left Pk.zero)⟩⟩
      case round =>
        obtain ⟨k, β, hk, rfl, hM, hS⟩ := hrel
        have MM := hidden hM
        have SS := hidden hS
        by_cases hlt : k < lb
        · rcases (R3.out.below hM.below hhi) with h0 | ⟨b, o, rfl, _, hb, hc⟩
          · omega
          · have cv := hc k hlt
            have hrg := G3.out k hlt
            obtain ⟨v, hv⟩ := Int.eq_ofNat_of_zero_le hrg.1
            have hvn : v < n := by omega
            have hvk := hidden hv
            rw [hv] at cv
            have xv := hM.blk.cell hvn
            have fv := hM.blk.frozen v
            clear hM hS hc hv hrg
            go_wp2
            go_roundw
            case rel => exact ⟨k + 1, _, by omega, by go_num, MM.out.set v, SS.out.set v (fun u => pk_succ_or hvk.out u)⟩
            case measure => simp [intOf]; omega
        · have e : lb = k := by omega
          subst e
          clear hM hS

          have SB := SS
          have M2 := hidden MM.out.next
          have hz := MM.out.size
          clear SS MM M1 S1
          go_wp2
          go_loopw [14] (fun i wr => ∃ (k : Nat) (ρ : Nat → Bool), k ≤ lt ∧ i = .int .i64 k ∧ BR w n β ρ wr ∧ Says n ρ (Pk Zt k)) (fun i _ => lt - (intOf i).toNat)
          case atStart => exact ⟨0, _, Nat.zero_le _, rfl, M2.out, fun u _ => ⟨fun h => (by cases h), fun h => absurd h Pk.zero⟩⟩
          case round =>
            obtain ⟨k, ρ, hk, rfl, hM, hS⟩ := hrel
            have MM := hidden hM
            have SS := hidden hS
            by_cases hlt : k < lt
            · rcases (R1.out.below hM.below hhi) with h0 | ⟨b, o, rfl, _, hb, hc⟩
              · omega
              · have cv := hc k hlt
                have hrg := G1.out k hlt
                obtain ⟨v, hv⟩ := Int.eq_ofNat_of_zero_le hrg.1
                have hvn : v < n := by omega
                have hvk := hidden hv
                rw [hv] at cv
                have xv := hM.rch.cell hvn
                have fv := hM.rch.frozen v
                clear hM hS hc hv hrg
                go_wp2
                go_roundw
                case rel => exact ⟨k + 1, _, by omega, by go_num, MM.out.set v, SS.out.set v (fun u => Pk.succ hvk.out)⟩
                case measure => simp [intOf]; omega
            · have e : lt = k := by omega
              subst e
              clear hM hS
              have M3 := MM
              have RI0 : Hid (RI n L Z (Pk Zt lt) (fun u => Pk Zb lb u ∨ Pk Za la u) ρ 0) := ⟨fun u hu => by
                have hun : u < n := by obtain ⟨i, h1, h2⟩ := hu; have := G1.out i h1; omega
                exact ⟨hun, (SS.out u hun).2 hu⟩, fun u hu h => Mt.Reach.start ((SS.out u hu).1 h), by have := falses_le ρ n; omega⟩
              clear MM SS M2

              go_wp2
              go_loopw [15] (fun i wr => ∃ (r : Nat) (ρ : Nat → Bool), r ≤ n ∧ i = .int .i64 r ∧ BR w n β ρ wr ∧ RI n L Z (Pk Zt lt) (fun u => Pk Zb lb u ∨ Pk Za la u) ρ r) (fun i _ => n - (intOf i).toNat)
              case atStart => exact ⟨0, _, Nat.zero_le _, rfl, M3.out, RI0.out⟩
              case round =>
                obtain ⟨r, ρ, hrn, rfl, hB, hI⟩ := hrel
                have BB := hidden hB
                have II := hidden hI
                clear hB hI M3 RI0
                by_cases hlt : r < n
                · obtain ⟨wo, rfl⟩ : ∃ wo : World, wo = wr := ⟨_, rfl⟩
                  go_wp2
                  go_loopw [16, 17] (fun cv i w5 => ∃ (k : Nat) (ρ : Nat → Bool) (c : Bool), k ≤ n ∧ cv = .bool c ∧ i = .int .i64 k ∧ BR w n β ρ w5 ∧ RR n L Z (Pk Zt lt) (fun u => Pk Zb lb u ∨ Pk Za la u) ρ r c k) (fun _ i _ => n - (intOf i).toNat)
                  case atStart => exact ⟨0, ρ, false, Nat.zero_le _, rfl, rfl, BB.out, RR.start II.out⟩
                  case round =>
                    obtain ⟨k, ρ, c, hkn, rfl, rfl, hB, hRR⟩ := hrel
                    have BB := hidden hB
                    have QQ := hidden hRR
                    clear II
                    by_cases hk : k < n
                    · have xk := hB.rch.cell hk
                      clear hB hRR
                      by_cases hρ : ρ k = true
                      · obtain ⟨w5, rfl⟩ : ∃ w5 : World, w5 = wr := ⟨_, rfl⟩
                        have D0 : Hid (c = false → Closed Z (fun u => Pk Zb lb u ∨ Pk Za la u) ρ k 0) := fun _ i u h => absurd h (Nat.not_lt_zero _)
                        rw [hρ] at xk
                        rcases (HR.out.below BB.out.below hhi) with h0 | ⟨ab, ao, rfl, _, hab, hrows⟩
                        · omega
                        · obtain ⟨av, cvv, hav⟩ : ∃ av cv, A k = av ∧ C k = cv := ⟨_, _, rfl, rfl⟩
                          have crow0 : w.cell? ⟨ab, ao + k, none⟩ = some (.slice av (L k) cvv) := by
                            have := (hrows k hk).1
                            rw [BB.out.below.cell (p := ⟨ab, ao + k, none⟩) (show ab < w.heap.size by omega), hav.1, hav.2] at this
                            exact this
                          have hrow0 : IRow w lo hi av (L k) (Z k) := by
                            rcases HR.out with h0 | ⟨_, _, _, _, _, hrows'⟩
                            · omega
                            · have := (hrows' k hk).2.2.2
                              rw [hav.1] at this; exact this
                          have RK := hidden hrow0
                          have CK := hidden crow0
                          have hlk := HL.out k hk
                          clear hrows hav hrow0 crow0
                          go_wp2
                          go_loopw [16, 18] (fun cv i w6 => ∃ (j : Nat) (ρ : Nat → Bool) (c : Bool), j ≤ L k ∧ cv = .bool c ∧ i = .int .i64 j ∧ BR w n β ρ w6 ∧ RR n L Z (Pk Zt lt) (fun u => Pk Zb lb u ∨ Pk Za la u) ρ r c k ∧ ρ k = true ∧ (c = false → Closed Z (fun u => Pk Zb lb u ∨ Pk Za la u) ρ k j)) (fun _ i _ => L k - (intOf i).toNat)
                          case atStart => exact ⟨0, ρ, c, Nat.zero_le _, rfl, rfl, BB.out, QQ.out, hρ, D0.out⟩
                          case round =>
                            obtain ⟨j, ρ, c, hj, rfl, rfl, hB, hRR, hρk, hcl⟩ := hrel
                            have BB := hidden hB
                            have QQ := hidden hRR
                            have CL := hidden hcl
                            have HK := hidden hρk
                            clear D0 xk hρ
                            have crow : wr.cell? ⟨ab, ao + k, none⟩ = some (.slice av (L k) cvv) := by rw [hB.below.cell (p := ⟨ab, ao + k, none⟩) (show ab < w.heap.size by omega)]; exact CK.out
                            by_cases hjl : j < L k
                            · rcases (RK.out.below hB.below hhi) with h0 | ⟨rb, ro, rfl, _, _, hcells⟩
                              · omega
                              · have cu := hcells j hjl
                                have hr2 := G0.out k hk j hjl
                                obtain ⟨u, hu⟩ := Int.eq_ofNat_of_zero_le hr2.1
                                rw [hu] at cu
                                have hun : u < n := by omega
                                have HU := hidden hu
                                have xu := hB.rch.cell hun
                                have fu := hB.rch.frozen u
                                have bu := hB.blk.cell hun
                                clear hu hr2 hcells hB hRR hcl hρk
                                by_cases hru : ρ u = true
                                · rw [hru] at xu
                                  have RUU := hidden hru
                                  clear hru
                                  go_wp2
                                  go_roundw
                                  case rel => exact ⟨j + 1, ρ, c, by omega, rfl, by go_num, BB.out, QQ.out, HK.out, fun hc i u' hi e hb => by
                                    by_cases ei : i = j
                                    · subst ei
                                      have : u' = u := by have := HU.out; omega
                                      subst this; exact RUU.out
                                    · exact CL.out hc i u' (by omega) e hb⟩
                                  case measure => simp [intOf]; omega
                                · have hru' : ρ u = false := by cases h : ρ u <;> simp_all
                                  rw [hru'] at xu
                                  have RUU := hidden hru'
                                  clear hru hru'
                                  by_cases hbu : β u = true
                                  · rw [hbu] at bu
                                    have BUU := hidden ((SB.out u hun).1 hbu)
                                    clear hbu
                                    go_wp2
                                    go_roundw
                                    case rel => exact ⟨j + 1, ρ, c, by omega, rfl, by go_num, BB.out, QQ.out, HK.out, fun hc i u' hi e hb => by
                                      by_cases ei : i = j
                                      · subst ei
                                        have : u' = u := by have := HU.out; omega
                                        subst this; exact absurd BUU.out hb
                                      · exact CL.out hc i u' (by omega) e hb⟩
                                    case measure => simp [intOf]; omega
                                  · have hbu' : β u = false := by cases h : β u <;> simp_all
                                    rw [hbu'] at bu
                                    have NB := hidden (fun hb => hbu ((SB.out u hun).2 hb))
                                    clear hbu hbu'
                                    have MK := hidden (QQ.out.ri.mark hun hk HK.out ⟨j, hjl, HU.out⟩ NB.out RUU.out)
                                    go_wp2
                                    go_roundw
                                    case rel => exact ⟨j + 1, _, true, by omega, rfl, by go_num, BB.out.set u, ⟨MK.out.1, fun _ => MK.out.2, fun h => (by cases h)⟩, by have := HK.out; simp [this], fun h => (by cases h)⟩
                                    case measure => simp [intOf]; omega
                            · have e : L k = j := by omega
                              subst e
                              have NX := hidden (QQ.out.skip fun _ hc => CL.out hc)
                              clear hB hRR hcl hρk
                              go_wp2
                              go_roundw
                              case rel => exact ⟨k + 1, ρ, c, by omega, rfl, by go_num, BB.out, NX.out⟩
                              case measure => simp [intOf]; omega
                      · have hρ' : ρ k = false := by cases h : ρ k <;> simp_all
                        rw [hρ'] at xk
                        have NX := hidden (QQ.out.skip fun h => absurd h hρ)
                        clear hρ hρ'
                        go_wp2
                        go_roundw
                        case rel => exact ⟨k + 1, ρ, c, by omega, rfl, by go_num, BB.out, NX.out⟩
                        case measure => simp [intOf]; omega
                    · have e : n = k := by omega
                      subst e
                      clear hB hRR
                      cases c
                      · have FI := hidden (ri_final QQ.out.ri HIN.out (.inr (QQ.out.no rfl)))
                        go_wp2
                        go_ret
                        exact ⟨rfl, β, ρ, BB.out, FI.out⟩
                      · have NX := hidden QQ.out.next
                        go_wp2
                        go_roundw
                        case rel => exact ⟨r + 1, ρ, by omega, by go_num, BB.out, NX.out⟩
                        case measure => simp [intOf]; omega
                · have e : n = r := by omega
                  subst e
                  have FI := hidden (ri_final II.out HIN.out (.inl rfl))
                  go_wp2
                  go_ret
                  exact ⟨rfl, β, ρ, BB.out, FI.out⟩

end Go.Proofs.Qxb6604796a
