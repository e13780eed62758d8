/-
  WALKS: zzMeetModel.
-/
import Derived.Test.Qxb6604796aR2
namespace Go.Proofs.Qxb6604796a
open Go.RowKit Mt

theorem reach_or {L : Nat → Nat} {Z : Nat → Nat → Int} {hf P Q : Nat → Prop} {u : Nat} : Mt.Reach L Z hf (fun u => P u ∨ Q u) u ↔ Mt.Reach L Z hf (fun u => Q u ∨ P u) u :=
  ⟨Mt.Reach.fewer fun _ h => h.symm, Mt.Reach.fewer fun _ h => h.symm⟩

/-- Everything reached is a node. -/
theorem reach_lt {n : Nat} {L : Nat → Nat} {Z : Nat → Nat → Int} {hf bl : Nat → Prop} (h0 : ∀ u, hf u → u < n) (hin : ∀ v u, v < n → Mt.In L Z v u → u < n) {u : Nat} (h : Mt.Reach L Z hf bl u) : u < n :=
  Mt.Reach.least (S := fun u => u < n) h0 (fun v u hv hi _ => hin v u hv hi) h

theorem meets_rows {n : Nat} {L : Nat → Nat} {Z : Nat → Nat → Int} {l1 l2 l3 : Nat} {Z1 Z2 Z3 : Nat → Int} (d : Dom n L Z l1 Z1 l2 Z2 l3 Z3) {ρ σ : Nat → Bool}
    (hρ : ∀ u, u < n → (ρ u = true ↔ Mt.Reach L Z (Pk Z1 l1) (fun u => Pk Z3 l3 u ∨ Pk Z2 l2 u) u))
    (hσ : ∀ u, u < n → (σ u = true ↔ Mt.Reach L Z (Pk Z2 l2) (fun u => Pk Z3 l3 u ∨ Pk Z1 l1 u) u)) :
    Meets L Z (half l1 l2 Z1 Z2) (blk l1 l2 l3 Z1 Z2 Z3) ↔ ∃ u, u < n ∧ ρ u = true ∧ σ u = true := by
  have e0 : ∀ u, Mt.Reach L Z (half l1 l2 Z1 Z2 0) (blk l1 l2 l3 Z1 Z2 Z3 0) u ↔ Mt.Reach L Z (Pk Z1 l1) (fun u => Pk Z3 l3 u ∨ Pk Z2 l2 u) u := fun u => (reach_or (P := Pk Z2 l2) (Q := Pk Z3 l3))
  have e1 : ∀ u, Mt.Reach L Z (half l1 l2 Z1 Z2 1) (blk l1 l2 l3 Z1 Z2 Z3 1) u ↔ Mt.Reach L Z (Pk Z2 l2) (fun u => Pk Z3 l3 u ∨ Pk Z1 l1 u) u := fun u => (reach_or (P := Pk Z1 l1) (Q := Pk Z3 l3))
  have lt1 : ∀ u, Pk Z1 l1 u → u < n := fun u ⟨i, hi, e⟩ => by have := d.one i hi; omega
  have hin : ∀ v u, v < n → Mt.In L Z v u → u < n := fun v u hv ⟨i, h1, h2⟩ => by have := d.rows v hv i h1; omega
  constructor
  · rintro ⟨u, h0, h1⟩
    have hu := reach_lt lt1 hin ((e0 u).1 h0)
    exact ⟨u, hu, (hρ u hu).2 ((e0 u).1 h0), (hσ u hu).2 ((e1 u).1 h1)⟩
  · rintro ⟨u, hu, h0, h1⟩
    exact ⟨u, (e0 u).2 ((hρ u hu).1 h0), (e1 u).2 ((hσ u hu).1 h1)⟩

set_option maxRecDepth 100000 in
set_option maxHeartbeats 4000000 in
theorem model_any (ai a1 a2 a3 : Option Addr) (n ci l1 c1 l2 c2 l3 c3 : Nat) (lo hi : Nat) (A : Nat → Option Addr) (L C : Nat → Nat) (Z : Nat → Nat → Int) (Z1 Z2 Z3 : Nat → Int) (w : World)
    (dom : Dom n L Z l1 Z1 l2 Z2 l3 Z3) (hn : n ≤ 4096) (h1 : l1 ≤ 65536) (h2 : l2 ≤ 65536) (h3 : l3 ≤ 65536) (hL : ∀ v, v < n → L v ≤ 131072) (hhi : hi ≤ w.heap.size)
    (hr : IRows w lo hi ai n A L C Z) (r1 : IRow w lo hi a1 l1 Z1) (r2 : IRow w lo hi a2 l2 Z2) (r3 : IRow w lo hi a3 l3 Z3) :
    Calls Try.prog 29 #[.slice ai n ci, .slice a1 l1 c1, .slice a2 l2 c2, .slice a3 l3 c3] w fun e w' => MeetRet L Z (half l1 l2 Z1 Z2) (blk l1 l2 l3 Z1 Z2 Z3) e ∧ Below w.heap.size w w' := by
  have HR := hidden hr
  have HL := hidden hL
  have R1 := hidden r1
  have R2 := hidden r2
  have R3 := hidden r3
  have DD := hidden dom
  have K1 := hidden (back_any ai a1 a2 a3 n ci l1 c1 l2 c2 l3 c3 lo hi A L C Z Z1 Z2 Z3 w hn h1 h2 h3 hL hhi hr r1 r2 r3 dom.rows dom.one dom.other dom.crashed)
  clear hr hL r1 r2 r3 dom
  go_enter Try.func29, Try.ntmps29
  go_wp2_with fail
  refine K1.out.mono ?_
  rintro e w1 ⟨rfl, β, ρ, hB, hρ⟩
  have hb := hB.below
  have hs : hi ≤ w1.heap.size := Nat.le_trans hhi hb.size
  have K2 := hidden (back_any ai a2 a1 a3 n ci l2 c2 l1 c1 l3 c3 lo hi A L C Z Z2 Z1 Z3 w1 hn h2 h1 h3 HL.out hs (HR.out.below hb hhi) (R2.out.below hb hhi) (R1.out.below hb hhi) (R3.out.below hb hhi) DD.out.rows DD.out.other DD.out.one DD.out.crashed)
  have B1 := hidden hB
  have PR := hidden hρ
  clear hB hρ K1 hb
  go_wp2_with fail
  refine K2.out.mono ?_
  rintro e w2 ⟨rfl, γ, σ, hB, hσ⟩
  have B2 := hidden hB
  have ME := hidden (meets_rows DD.out PR.out hσ)
  have BW := hidden (B1.out.below.trans (hB.below.mono B1.out.below.size))
  have HX : Hid (∀ k, k < n → w2.cell? ⟨w.heap.size + 1, k, none⟩ = some (.bool (ρ k))) := fun k hk => by
    rw [hB.below.cell (p := ⟨w.heap.size + 1, k, none⟩) B1.out.rch.lt]; exact B1.out.rch.cell hk
  have HY : Hid (∀ k, k < n → w2.cell? ⟨w1.heap.size + 1, k, none⟩ = some (.bool (σ k))) := fun k hk => hB.rch.cell hk
  clear hB hσ K2 DD PR
  go_wp2
  go_loop [11] (fun i => ∃ k : Nat, k ≤ n ∧ i = .int .i64 k ∧ ∀ u, u < k → ¬ (ρ u = true ∧ σ u = true)) (fun i => n - (intOf i).toNat)
  case atStart => exact ⟨0, Nat.zero_le _, rfl, fun u h => absurd h (Nat.not_lt_zero _)⟩
  case round =>
    obtain ⟨k, hk, rfl, hno⟩ := hrel
    have NO := hidden hno
    clear hno
    by_cases hlt : k < n
    · have cx := HX.out k hlt
      have cy := HY.out k hlt
      by_cases hr : ρ k = true
      · rw [hr] at cx
        by_cases hs : σ k = true
        · rw [hs] at cy
          have FI := hidden (ME.out.2 ⟨k, hlt, hr, hs⟩)
          clear hr hs
          go_wp2
          go_ret
          exact ⟨⟨true, rfl, ⟨fun _ => FI.out, fun _ => rfl⟩⟩, BW.out⟩
        · have hs' : σ k = false := by cases h : σ k <;> simp_all
          rw [hs'] at cy
          have HN := hidden hs
          clear hr hs hs'
          go_wp2
          go_round
          case rel => exact ⟨k + 1, by omega, by go_num, fun u hu => by
            by_cases e : u = k
            · subst e; exact fun h => HN.out h.2
            · exact NO.out u (by omega)⟩
          case measure => simp [intOf]; omega
      · have hr' : ρ k = false := by cases h : ρ k <;> simp_all
        rw [hr'] at cx
        have HN := hidden hr
        clear hr hr'
        go_wp2
        go_round
        case rel => exact ⟨k + 1, by omega, by go_num, fun u hu => by
          by_cases e : u = k
          · subst e; exact fun h => HN.out h.1
          · exact NO.out u (by omega)⟩
        case measure => simp [intOf]; omega
    · have e : n = k := by omega
      subst e
      have FI : Hid (¬ Meets L Z (half l1 l2 Z1 Z2) (blk l1 l2 l3 Z1 Z2 Z3)) := fun h => by
        obtain ⟨u, hu, h0⟩ := ME.out.1 h
        exact NO.out u hu h0
      go_wp2
      go_ret
      exact ⟨⟨false, rfl, ⟨fun h => (by cases h), fun h => absurd h FI.out⟩⟩, BW.out⟩

end Go.Proofs.Qxb6604796a
