/-
  WALK for the two Augment laws: zzFlowDomain.
-/
import Derived.Test.Qxb6604796aFb
import Derived.Test.Qxb6604796aAn
import Derived.Test.Qxb6604796aR2
import Derived.Deep.QuietTactic
import Derived.BigQuiet
namespace Go.Proofs.Qxb6604796a
open Go.RowKit Af
set_option linter.unusedVariables false

/-- What zzFlowDomain tests. -/
structure FDom (n M : Nat) (L : Nat → Nat) (Z : Nat → Nat → Int) (T F : Nat → Int) (l1 ls : Nat) (S : Nat → Int) (sink : Int) (all : Bool) : Prop where
  snk : 0 ≤ sink ∧ sink < n
  even : M % 2 = 0
  len : l1 = M
  hed : ∀ a, a < M → 0 ≤ T a ∧ T a < n
  cap : ∀ a, a < M → 0 ≤ F a ∧ F a + F (x a) ≤ 127
  arcs : ∀ v, v < n → ∀ i, i < L v → ∃ a : Nat, Z v i = (a : Int) ∧ a < M ∧ T (x a) = (v : Int)
  all : all = true → ∀ a, a < M → ∃ v i, v < n ∧ i < L v ∧ Z v i = ((a : Nat) : Int)
  starts : ∀ i, i < ls → 0 ≤ S i ∧ S i < n ∧ S i ≠ sink

def FDomRet (n M : Nat) (L : Nat → Nat) (Z : Nat → Nat → Int) (T F : Nat → Int) (l1 ls : Nat) (S : Nat → Int) (sink : Int) (all : Bool) (e : Ending) : Prop := ∃ r, e = .returned (.bool r) ∧ (r = true → FDom n M L Z T F l1 ls S sink all)

theorem below_drewN {N : Nat} {w wr : World} (h : Below N w wr) (k : Nat) : Below N w (wr.drewN k) := by
  induction k with
  | zero => exact h
  | succ k ih => exact (⟨ih.os, ih.tape, ih.output, ih.size, ih.block⟩ : Below N w (wr.drewN k).drew)

/-- The first k rows, and j arcs of the next, are listed. -/
def Lsd (n M : Nat) (L : Nat → Nat) (Z : Nat → Nat → Int) (T : Nat → Int) (β : Nat → Bool) (k j : Nat) : Prop :=
  (∀ v i, (v < k ∧ i < L v ∨ v = k ∧ i < j) → ∃ a : Nat, Z v i = (a : Int) ∧ a < M ∧ T (x a) = (v : Int)) ∧ ∀ a, a < M → β a = true → ∃ v i, (v < k ∧ i < L v ∨ v = k ∧ i < j) ∧ Z v i = ((a : Nat) : Int)

theorem Lsd.next {n M : Nat} {L : Nat → Nat} {Z : Nat → Nat → Int} {T : Nat → Int} {β : Nat → Bool} {k j : Nat} (h : Lsd n M L Z T β k j) (hj : j = L k) : Lsd n M L Z T β (k + 1) 0 := by
  subst hj
  refine ⟨fun v i hv => h.1 v i ?_, fun a ha hb => ?_⟩
  · rcases hv with ⟨h1, h2⟩ | ⟨_, h2⟩
    · by_cases e : v = k
      · subst e; exact .inr ⟨rfl, h2⟩
      · exact .inl ⟨by omega, h2⟩
    · omega
  · obtain ⟨v, i, h1, h2⟩ := h.2 a ha hb
    refine ⟨v, i, ?_, h2⟩
    rcases h1 with ⟨h1, h3⟩ | ⟨rfl, h3⟩
    · exact .inl ⟨by omega, h3⟩
    · exact .inl ⟨by omega, h3⟩

theorem Lsd.add {n M : Nat} {L : Nat → Nat} {Z : Nat → Nat → Int} {T : Nat → Int} {β : Nat → Bool} {k j a : Nat} (h : Lsd n M L Z T β k j) (hz : Z k j = (a : Int)) (ha : a < M) (ht : T (x a) = (k : Int)) : Lsd n M L Z T (fun i => if i = a then true else β i) k (j + 1) := by
  refine ⟨fun v i hv => ?_, fun b hb hbb => ?_⟩
  · by_cases e : v = k ∧ i = j
    · obtain ⟨rfl, rfl⟩ := e; exact ⟨a, hz, ha, ht⟩
    · exact h.1 v i (by omega)
  · by_cases e : b = a
    · subst e; exact ⟨k, j, .inr ⟨rfl, by omega⟩, hz⟩
    · have hbb : (if b = a then true else β b) = true := hbb
      rw [if_neg e] at hbb
      obtain ⟨v, i, h1, h2⟩ := h.2 b hb hbb
      exact ⟨v, i, by omega, h2⟩

set_option maxRecDepth 100000 in
set_option maxHeartbeats 4000000 in
theorem flowDomain (at' ai al as' : Option Addr) (M ct n ci l1 c1 ls cs : Nat) (sink : Int) (all : Bool) (lo hi : Nat) (A : Nat → Option Addr) (L C : Nat → Nat) (Z : Nat → Nat → Int) (T F S : Nat → Int) (w : World)
    (h0 : M ≤ 4096) (hn : n ≤ 4096) (h1 : l1 ≤ 4096) (h2 : ls ≤ 4096) (hL : ∀ v, v < n → L v ≤ 131072) (hF : ∀ a, a < l1 → -128 ≤ F a ∧ F a ≤ 127) (hhi : hi ≤ w.heap.size) (hr : IRows w lo hi ai n A L C Z) (rt : IRow w lo hi at' M T) (rl : I8 w lo hi al l1 F) (rs : IRow w lo hi as' ls S) :
    Calls Try.prog 15 #[.slice at' M ct, .slice ai n ci, .slice al l1 c1, .slice as' ls cs, .int .i64 sink, .bool all] w fun e w' => FDomRet n M L Z T F l1 ls S sink all e ∧ Below w.heap.size w w' := by
  have HR := hidden hr
  have HL := hidden hL
  have HF := hidden hF
  have RT := hidden rt
  have RL := hidden rl
  have RS := hidden rs
  clear hr hL rt rl rs hF
  by_cases hs0 : sink < 0
  · go_enter Try.func15, Try.ntmps15
    go_wp2
    go_ret
    exact ⟨⟨false, rfl, fun h => by cases h⟩, Below.refl _ _⟩
  by_cases hs1 : (n : Int) ≤ sink
  · go_enter Try.func15, Try.ntmps15
    go_wp2
    go_ret
    exact ⟨⟨false, rfl, fun h => by cases h⟩, Below.refl _ _⟩
  have k0 : 0 ≤ sink := by omega
  have k1 : sink < n := by omega
  clear hs0 hs1
  by_cases hev : M % 2 = 0
  · by_cases hlen : l1 = M
    · subst hlen
      have hevi : ((l1 : Int) % 2) = 0 := by omega
      have hmk := run_make_row' (P := Try.prog) 40 4 (.bool false) 1 Try.underlying40 Try.info4 rfl .i64 .i64 l1 (by omega) (by omega)
      have HEV := hidden hev
      clear hev
      go_enter Try.func15, Try.ntmps15
      go_wp2
      clear hevi
      go_loopw [14] (fun i wr => ∃ k : Nat, k ≤ l1 ∧ i = .int .i64 k ∧ Below w.heap.size w wr ∧ ∀ a, a < k → (0 ≤ T a ∧ T a < n) ∧ 0 ≤ F a ∧ F a + F (x a) ≤ 127) (fun i _ => l1 - (intOf i).toNat)
      case atStart => exact ⟨0, Nat.zero_le _, rfl, Below.refl _ _, fun a h => absurd h (Nat.not_lt_zero _)⟩
      case round =>
        obtain ⟨k, hk, rfl, hbel, hok⟩ := hrel
        have BEL := hidden hbel
        have OK := hidden hok
        by_cases hlt : k < l1
        · have hxl : x k < l1 := x_lt hlt HEV.out
          rcases (RT.out.below hbel hhi) with h0 | ⟨tb, tto, rfl, _, _, tc⟩
          · omega
          rcases (RL.out.below hbel hhi) with h0 | ⟨fb, fo, rfl, _, _, fc⟩
          · omega
          have c1 := tc k hlt
          have c2 := fc k hlt
          have c3 := fc (x k) hxl
          obtain ⟨b1, b2⟩ := HF.out k hlt
          obtain ⟨b3, b4⟩ := HF.out (x k) hxl
          have hbx := bits_x k (by omega)
          obtain ⟨y, hy⟩ : ∃ y, y = x k := ⟨_, rfl⟩
          have HY := hidden hy
          rw [← hy] at c3 b3 b4 hbx hxl
          clear tc fc hbel hok hy
          by_cases t0 : T k < 0
          · go_wp2
            go_ret
            exact ⟨⟨false, rfl, fun h => by cases h⟩, BEL.out⟩
          by_cases t1 : (n : Int) ≤ T k
          · go_wp2
            go_ret
            exact ⟨⟨false, rfl, fun h => by cases h⟩, BEL.out⟩
          by_cases f0 : F k < 0
          · go_wp2
            go_ret
            exact ⟨⟨false, rfl, fun h => by cases h⟩, BEL.out⟩
          by_cases f1 : F k + F y ≤ 127
          · have NX : Hid (∀ a, a < k + 1 → (0 ≤ T a ∧ T a < n) ∧ 0 ≤ F a ∧ F a + F (x a) ≤ 127) := fun a ha => by
              by_cases e : a = k
              · subst e; rw [← HY.out]; exact ⟨⟨by omega, by omega⟩, by omega, f1⟩
              · exact OK.out a (by omega)
            go_wp2
            go_quiet (fail)
            go_wp2
            go_roundw
            case rel => exact ⟨k + 1, by omega, by go_num, below_drewN BEL.out _, NX.out⟩
            case measure => simp [intOf]; omega
          · have f2 : 127 < F k + F y := by omega
            go_wp2
            go_quiet (fail)
            go_wp2
            go_ret
            exact ⟨⟨false, rfl, fun h => by cases h⟩, below_drewN BEL.out _⟩
        · have e : l1 = k := by omega
          subst e
          clear hbel hok
          obtain ⟨w1, hw1⟩ : ∃ w1 : World, w1 = wr := ⟨_, rfl⟩
          subst hw1
          have hsz := BEL.out.size
          go_wp2
          go_loopw [16] (fun i wr => ∃ (k : Nat) (β : Nat → Bool), k ≤ n ∧ i = .int .i64 k ∧ B1 w1 l1 β wr ∧ Lsd n l1 L Z T β k 0) (fun i _ => n - (intOf i).toNat)
          case atStart => exact ⟨0, _, Nat.zero_le _, rfl, B1.start w1 l1, fun v i h => by omega, fun a _ h => by cases h⟩
          case round =>
            obtain ⟨k, β, hk2, rfl, hB, hl⟩ := hrel
            have BB := hidden hB
            have LL := hidden hl
            have BW := hidden (BEL.out.trans (hB.below.mono hsz))
            by_cases hlt2 : k < n
            · rcases (HR.out.below BW.out hhi) with h0 | ⟨ab, ao, rfl, _, hab, hrows⟩
              · omega
              obtain ⟨av, cvv, hav⟩ : ∃ av cv, A k = av ∧ C k = cv := ⟨_, _, rfl, rfl⟩
              have crow0 : w.cell? ⟨ab, ao + k, none⟩ = some (.slice av (L k) cvv) := by
                have := (hrows k hlt2).1
                rw [BW.out.cell (p := ⟨ab, ao + k, none⟩) (show ab < w.heap.size by omega), hav.1, hav.2] at this
                exact this
              have hrow0 : IRow w lo hi av (L k) (Z k) := by
                rcases HR.out with h0 | ⟨_, _, _, _, _, hrows'⟩
                · omega
                · have := (hrows' k hlt2).2.2.2
                  rw [hav.1] at this; exact this
              have RK := hidden hrow0
              have CK := hidden crow0
              have hlk := HL.out k hlt2
              clear hrows hav hrow0 crow0 hB hl
              go_wp2
              go_loopw [17] (fun i wr => ∃ (j : Nat) (β : Nat → Bool), j ≤ L k ∧ i = .int .i64 j ∧ B1 w1 l1 β wr ∧ Lsd n l1 L Z T β k j) (fun i _ => L k - (intOf i).toNat)
              case atStart => exact ⟨0, β, Nat.zero_le _, rfl, BB.out, LL.out⟩
              case round =>
                obtain ⟨j, β, hj, rfl, hB, hl⟩ := hrel
                have BB := hidden hB
                have LL := hidden hl
                have BW := hidden (BEL.out.trans (hB.below.mono hsz))
                have crow : wr.cell? ⟨ab, ao + k, none⟩ = some (.slice av (L k) cvv) := by rw [BW.out.cell (p := ⟨ab, ao + k, none⟩) (show ab < w.heap.size by omega)]; exact CK.out
                by_cases hjl : j < L k
                · rcases (RK.out.below BW.out hhi) with h0 | ⟨rb, ro, rfl, _, _, hcells⟩
                  · omega
                  have cz := hcells j hjl
                  by_cases z0 : Z k j < 0
                  · clear hcells hB hl
                    go_wp2
                    go_ret
                    exact ⟨⟨false, rfl, fun h => by cases h⟩, BW.out⟩
                  by_cases z1 : (l1 : Int) ≤ Z k j
                  · clear hcells hB hl
                    go_wp2
                    go_ret
                    exact ⟨⟨false, rfl, fun h => by cases h⟩, BW.out⟩
                  obtain ⟨a, hae⟩ := Int.eq_ofNat_of_zero_le (show 0 ≤ Z k j by omega)
                  rw [hae] at cz
                  have HAE := hidden hae
                  have hal : a < l1 := by omega
                  have hxl : x a < l1 := x_lt hal HEV.out
                  rcases (RT.out.below BW.out hhi) with h0 | ⟨tb, tto, rfl, _, _, tc⟩
                  · omega
                  have ct0 := tc (x a) hxl
                  have hbx := bits_x a (by omega)
                  have lc := hB.blk.cell hal
                  have lf := hB.blk.frozen a
                  obtain ⟨y, hy⟩ : ∃ y, y = x a := ⟨_, rfl⟩
                  have HY := hidden hy
                  rw [← hy] at ct0 hbx hxl
                  clear tc hcells hB hl hy hae z0 z1
                  by_cases ht : T y = (k : Int)
                  · rw [ht] at ct0
                    have NX := hidden (LL.out.add HAE.out hal (by rw [← HY.out]; exact ht))
                    clear ht
                    go_wp2
                    go_roundw
                    case rel => exact ⟨j + 1, _, by omega, by go_num, BB.out.set a, NX.out⟩
                    case measure => simp [intOf]; omega
                  · have ht2 : (T y != (k : Int)) = true := by simpa using ht
                    clear ht
                    go_wp2
                    go_ret
                    exact ⟨⟨false, rfl, fun h => by cases h⟩, BW.out⟩
                · have e : L k = j := by omega
                  subst e
                  have NX := hidden (LL.out.next rfl)
                  clear hB hl
                  go_wp2
                  go_roundw
                  case rel => exact ⟨k + 1, β, by omega, by go_num, BB.out, NX.out⟩
                  case measure => simp [intOf]; omega
            · have e : n = k := by omega
              subst e
              clear hB hl
              obtain ⟨w2, hw2⟩ : ∃ w2 : World, w2 = wr := ⟨_, rfl⟩
              subst hw2
              go_upto_if 121 with fail
              go_cut [] (fun wx => wx = w2 ∧ (all = true → ∀ a, a < l1 → β a = true))
              case first =>
                cases all with
                | false =>
                  go_wp2
                  go_meet
                  case rel => exact ⟨rfl, fun h => by cases h⟩
                | true =>
                  have HB : Hid (∀ a, a < l1 → w2.cell? ⟨w1.heap.size, a, none⟩ = some (.bool (β a))) := fun a ha => BB.out.blk.cell ha
                  go_wp2
                  go_loop [19] (fun i => ∃ k : Nat, k ≤ l1 ∧ i = .int .i64 k ∧ ∀ a, a < k → β a = true) (fun i => l1 - (intOf i).toNat)
                  case atStart => exact ⟨0, Nat.zero_le _, rfl, fun a h => absurd h (Nat.not_lt_zero _)⟩
                  case round =>
                    obtain ⟨k, hk4, rfl, hall⟩ := hrel
                    have HA := hidden hall
                    clear hall
                    by_cases hlt4 : k < l1
                    · have cb := HB.out k hlt4
                      by_cases hb : β k = true
                      · rw [hb] at cb
                        have NX : Hid (∀ a, a < k + 1 → β a = true) := fun a ha => by
                          by_cases e : a = k
                          · subst e; exact hb
                          · exact HA.out a (by omega)
                        clear hb
                        go_wp2
                        go_round
                        case rel => exact ⟨k + 1, by omega, by go_num, NX.out⟩
                        case measure => simp [intOf]; omega
                      · have hb' : β k = false := Bool.eq_false_iff.2 hb
                        rw [hb'] at cb
                        clear hb hb'
                        go_wp2
                        go_ret
                        exact ⟨⟨false, rfl, fun h => by cases h⟩, BW.out⟩
                    · have e : l1 = k := by omega
                      subst e
                      go_wp2
                      go_meet
                      case rel => exact ⟨rfl, fun _ => HA.out⟩
              case rest =>
                obtain ⟨rfl, hall⟩ := hcut
                have HALL := hidden hall
                clear hall
                go_wp2
                go_loop [20] (fun i => ∃ k : Nat, k ≤ ls ∧ i = .int .i64 k ∧ ∀ i, i < k → 0 ≤ S i ∧ S i < n ∧ S i ≠ sink) (fun i => ls - (intOf i).toNat)
                case atStart => exact ⟨0, Nat.zero_le _, rfl, fun a h => absurd h (Nat.not_lt_zero _)⟩
                case round =>
                  obtain ⟨k, hk5, rfl, hst⟩ := hrel
                  have HS := hidden hst
                  clear hst
                  by_cases hlt5 : k < ls
                  · rcases (RS.out.below BW.out hhi) with h0 | ⟨sb, so, rfl, _, _, sc⟩
                    · omega
                    have c := sc k hlt5
                    clear sc
                    by_cases s0 : S k < 0
                    · go_wp2
                      go_ret
                      exact ⟨⟨false, rfl, fun h => by cases h⟩, BW.out⟩
                    by_cases s1 : (n : Int) ≤ S k
                    · go_wp2
                      go_ret
                      exact ⟨⟨false, rfl, fun h => by cases h⟩, BW.out⟩
                    by_cases s2 : S k = sink
                    · have s3 : (S k == sink) = true := beq_iff_eq.2 s2
                      clear s2
                      go_wp2
                      go_ret
                      exact ⟨⟨false, rfl, fun h => by cases h⟩, BW.out⟩
                    have s3 : (S k == sink) = false := beq_eq_false_iff_ne.2 s2
                    have NX : Hid (∀ i, i < k + 1 → 0 ≤ S i ∧ S i < n ∧ S i ≠ sink) := fun i hi => by
                      by_cases e : i = k
                      · subst e; exact ⟨by omega, by omega, s2⟩
                      · exact HS.out i (by omega)
                    clear s2
                    go_wp2
                    go_round
                    case rel => exact ⟨k + 1, by omega, by go_num, NX.out⟩
                    case measure => simp [intOf]; omega
                  · have e : ls = k := by omega
                    subst e
                    have FIN : Hid (FDom n l1 L Z T F l1 ls S sink all) := ⟨⟨k0, k1⟩, HEV.out, rfl, fun a ha => (OK.out a ha).1, fun a ha => (OK.out a ha).2, fun v hv i hi => LL.out.1 v i (.inl ⟨hv, hi⟩), fun h a ha => by
                      obtain ⟨v, i, h1, h2⟩ := LL.out.2 a ha (HALL.out h a ha)
                      exact ⟨v, i, by omega, by omega, h2⟩, HS.out⟩
                    go_wp2
                    go_ret
                    exact ⟨⟨true, rfl, fun _ => FIN.out⟩, BW.out⟩
    · have hlen2 : ((l1 : Int) != (M : Int)) = true := by simp; omega
      have hevi : ((M : Int) % 2) = 0 := by omega
      go_enter Try.func15, Try.ntmps15
      go_wp2
      go_ret
      exact ⟨⟨false, rfl, fun h => by cases h⟩, Below.refl _ _⟩
  · have hevi : ((M : Int) % 2) = 1 := by omega
    go_enter Try.func15, Try.ntmps15
    go_wp2
    go_ret
    exact ⟨⟨false, rfl, fun h => by cases h⟩, Below.refl _ _⟩

end Go.Proofs.Qxb6604796a
