/-
  WALKS: zb1Kernels, zb1GPUs, zb1CloneS.
-/
import Derived.Test.Qxb6605253aG4
import Derived.Deep.RegionHeld3
import Derived.Deep.QuietTactic
import Derived.BigQuiet
import Derived.Lib.SliceRun
namespace Go.Proofs.Qxb6605253a
open Go.RowKit
set_option linter.unusedVariables false
set_option linter.unusedSimpArgs false

theorem tofK' (en nm be ar : ByteArray) (ws : Int) (tv : ByteArray) (w : World) :
    Calls Try.prog 36 #[.agg #[.string en, .string nm, .string be, .string ar, .int .i64 ws, .string tv]] w fun e w' => e = .returned (.agg #[.string be, .string ar, .int .i64 ws]) ∧ Two w w' := tofK en nm be ar ws tv w
theorem tofG' (i : Int) (be ar : ByteArray) (ws : Int) (pr dr : ByteArray) (w : World) :
    Calls Try.prog 27 #[.agg #[.int .i64 i, .string be, .string ar, .int .i64 ws, .string pr, .string dr]] w fun e w' => e = .returned (.agg #[.string be, .string ar, .int .i64 ws]) ∧ Two w w' := tofG i be ar ws pr dr w
theorem target13' (be ar : ByteArray) (ws : Int) (w : World) :
    Calls Try.prog 13 #[.agg #[.string be, .string ar, .int .i64 ws]] w fun e w' => e = .returned (.agg #[.string be, .string ar, .int .i64 ws]) ∧ Two w w' := target13 ⟨be, ar, ws⟩ w

/-- The cells of one struct of six. -/
def Six (b p : Nat) (V : Nat → Value) (w : World) : Prop := w.cell? ⟨b, p, none⟩ = some (V 0) ∧ w.cell? ⟨b, p + 1, none⟩ = some (V 1) ∧ w.cell? ⟨b, p + 2, none⟩ = some (V 2) ∧ w.cell? ⟨b, p + 3, none⟩ = some (V 3) ∧ w.cell? ⟨b, p + 4, none⟩ = some (V 4) ∧ w.cell? ⟨b, p + 5, none⟩ = some (V 5)

theorem Six.same {b p : Nat} {V : Nat → Value} {w w' : World} (h : Six b p V w) (e : w'.heap[b]? = w.heap[b]?) : Six b p V w' := by
  obtain ⟨h0, h1, h2, h3, h4, h5⟩ := h
  exact ⟨by rw [World.cell?_of_block (a := ⟨b, p, none⟩) e]; exact h0, by rw [World.cell?_of_block (a := ⟨b, p + 1, none⟩) e]; exact h1, by rw [World.cell?_of_block (a := ⟨b, p + 2, none⟩) e]; exact h2, by rw [World.cell?_of_block (a := ⟨b, p + 3, none⟩) e]; exact h3, by rw [World.cell?_of_block (a := ⟨b, p + 4, none⟩) e]; exact h4, by rw [World.cell?_of_block (a := ⟨b, p + 5, none⟩) e]; exact h5⟩

theorem Six.two {b p : Nat} {V : Nat → Value} {w w' : World} (h : Six b p V w) (hb : b < w.heap.size) (h2 : Two w w') : Six b p V w' ∧ b < w'.heap.size := by
  have := Below.two (Below.refl w.heap.size w) (Nat.le_refl _) h2
  exact ⟨h.same (this.block b hb), Nat.lt_of_lt_of_le hb this.size⟩

/-- What the region that fills slot k needs of its world. -/
structure KF (w : World) (e n : Nat) (V : Nat → Nat → Value) (k b p : Nat) (wr : World) : Prop where
  out : OR w e n 6 V k wr
  six : Six b p (V k) wr
  lt : b < wr.heap.size

theorem KF.two {w : World} {e n : Nat} {V : Nat → Nat → Value} {k b p : Nat} {wr w2 : World} (h : KF w e n V k b p wr) (h2 : Two wr w2) : KF w e n V k b p w2 :=
  ⟨h.out.two h2, (h.six.two h.lt h2).1, (h.six.two h.lt h2).2⟩

theorem KF.drew {w : World} {e n : Nat} {V : Nat → Nat → Value} {k b p : Nat} {wr : World} (h : KF w e n V k b p wr) : KF w e n V k b p wr.drew :=
  ⟨h.out.drewN 1, h.six.same rfl, h.lt⟩

theorem KF.cells {w : World} {e n : Nat} {V : Nat → Nat → Value} {k b p : Nat} {wr : World} (h : KF w e n V k b p wr) (hk : k < n) : ∃ f : Nat → Value,
    (wr.cell? ⟨w.heap.size, k * 6, none⟩ = some (f 0) ∧ wr.frozen? ⟨w.heap.size, k * 6, none⟩ = false) ∧ (wr.cell? ⟨w.heap.size, k * 6 + 1, none⟩ = some (f 1) ∧ wr.frozen? ⟨w.heap.size, k * 6 + 1, none⟩ = false) ∧ (wr.cell? ⟨w.heap.size, k * 6 + 2, none⟩ = some (f 2) ∧ wr.frozen? ⟨w.heap.size, k * 6 + 2, none⟩ = false) ∧
    (wr.cell? ⟨w.heap.size, k * 6 + 3, none⟩ = some (f 3) ∧ wr.frozen? ⟨w.heap.size, k * 6 + 3, none⟩ = false) ∧ (wr.cell? ⟨w.heap.size, k * 6 + 4, none⟩ = some (f 4) ∧ wr.frozen? ⟨w.heap.size, k * 6 + 4, none⟩ = false) ∧ (wr.cell? ⟨w.heap.size, k * 6 + 5, none⟩ = some (f 5) ∧ wr.frozen? ⟨w.heap.size, k * 6 + 5, none⟩ = false) := by
  obtain ⟨f, hf, hz⟩ := h.out.at
  exact ⟨fun j => f (k * 6 + j), ⟨hf _ (by omega), hz _⟩, ⟨hf _ (by omega), hz _⟩, ⟨hf _ (by omega), hz _⟩, ⟨hf _ (by omega), hz _⟩, ⟨hf _ (by omega), hz _⟩, ⟨hf _ (by omega), hz _⟩⟩

theorem make50 (n : Nat) (hn : n ≤ 1048576) (w : World) : ∃ cs : Array Value, cs.size = n * 6 ∧ (Instr.makeSlice 50 (.int .i64 n) (.int .i64 n)).run Try.prog w = .ok (.slice (some ⟨w.heap.size, 0, none⟩) n n) (w.alloc (.cells cs 77)) := by
  have hin : (Try.prog.info? 77).map (fun i => (i.zero, i.size, i.bytes)) = some (some (.agg #[.string ⟨#[]⟩, .string ⟨#[]⟩, .string ⟨#[]⟩, .string ⟨#[]⟩, .int .i64 0, .string ⟨#[]⟩]), 6, 88) := by kernel_rfl
  obtain ⟨i, hi, hzz⟩ := Option.map_eq_some_iff.1 hin
  simp only [Prod.mk.injEq] at hzz
  obtain ⟨hz, hs, hb⟩ := hzz
  have hr := run_make (P := Try.prog) w 50 77 i _ Try.underlying50 hi hz .i64 .i64 n n (by omega) (Int.le_refl _) (by rw [hb]; omega) (by omega)
  rw [hs] at hr
  simp only [Int.toNat_natCast] at hr
  exact ⟨_, by simp [madeCells], hr⟩

theorem make46 (n : Nat) (hn : n ≤ 1048576) (w : World) : ∃ cs : Array Value, cs.size = n * 6 ∧ (Instr.makeSlice 46 (.int .i64 n) (.int .i64 n)).run Try.prog w = .ok (.slice (some ⟨w.heap.size, 0, none⟩) n n) (w.alloc (.cells cs 75)) := by
  have hin : (Try.prog.info? 75).map (fun i => (i.zero, i.size, i.bytes)) = some (some (.agg #[.int .i64 0, .string ⟨#[]⟩, .string ⟨#[]⟩, .int .i64 0, .string ⟨#[]⟩, .string ⟨#[]⟩]), 6, 80) := by kernel_rfl
  obtain ⟨i, hi, hzz⟩ := Option.map_eq_some_iff.1 hin
  simp only [Prod.mk.injEq] at hzz
  obtain ⟨hz, hs, hb⟩ := hzz
  have hr := run_make (P := Try.prog) w 46 75 i _ Try.underlying46 hi hz .i64 .i64 n n (by omega) (Int.le_refl _) (by rw [hb]; omega) (by omega)
  rw [hs] at hr
  simp only [Int.toNat_natCast] at hr
  exact ⟨_, by simp [madeCells], hr⟩

set_option maxRecDepth 100000 in
set_option maxHeartbeats 4000000 in
theorem kernels25 (ad : Addr) (n c hi : Nat) (q : Nat → K6) (w : World) (hn : n ≤ 4096) (hhi : hi ≤ w.heap.size) (hr : SRow w hi (some ad) n 6 (kV q)) :
    Calls Try.prog 25 #[.slice (some ad) n c] w fun e w' => e = .returned (.slice (some ⟨w.heap.size, 0, none⟩) n n) ∧ OR w 77 n 6 (kV q) n w' := by
  have hq := fun w => Lib.run_eql_slice_nil (P := Try.prog) w 39 60 (some ad) n c 0 0 Try.underlying39
  obtain ⟨cs, hcs, hmk⟩ := make50 n (by omega) w
  have O0 := hidden (OR.start (e := 77) (V := kV q) w cs hcs)
  have HR := hidden hr
  clear hr hcs
  go_enter Try.func25, Try.ntmps25
  go_wp2
  go_loopw [4] (fun i wr => ∃ k : Nat, k ≤ n ∧ i = .int .i64 k ∧ OR w 77 n 6 (kV q) k wr) (fun i _ => n - (intOf i).toNat)
  case atStart => exact ⟨0, Nat.zero_le _, rfl, O0.out⟩
  case round =>
    obtain ⟨k, hk, rfl, ho⟩ := hrel
    have OO := hidden ho
    clear O0 hmk hq
    by_cases hlt : k < n
    · rcases HR.out.below ho.below hhi with h0 | ⟨b, o, hae, hbh, hc⟩
      · omega
      obtain rfl : ad = ⟨b, o, none⟩ := by simpa using hae
      clear hae
      have K0 : Hid (KF w 77 n (kV q) k b (o + k * 6) wr) := ⟨⟨ho, ⟨hc k hlt 0 (by omega), hc k hlt 1 (by omega), hc k hlt 2 (by omega), hc k hlt 3 (by omega), hc k hlt 4 (by omega), hc k hlt 5 (by omega)⟩, by have := ho.below.size; omega⟩⟩
      have hne : ¬ (b = w.heap.size) := by omega
      have hne' : ¬ (w.heap.size = b) := by omega
      obtain ⟨c0, c1, c2, c3, c4, c5⟩ := K0.out.six
      simp only [kV] at c0 c1 c2 c3 c4 c5
      clear hc ho
      go_wp2_with fail
      go_region_held3 (fun w' => w'.cell? ⟨b, o + k * 6, none⟩ = some (.string (q k).en) ∧ w'.cell? ⟨b, o + k * 6 + 1, none⟩ = some (.string (q k).nm) ∧ w'.cell? ⟨b, o + k * 6 + 2, none⟩ = some (.string (q k).t.be) ∧ w'.cell? ⟨b, o + k * 6 + 3, none⟩ = some (.string (q k).t.ar) ∧ w'.cell? ⟨b, o + k * 6 + 4, none⟩ = some (.int .i64 (q k).t.ws) ∧ w'.cell? ⟨b, o + k * 6 + 5, none⟩ = some (.string (q k).tv)) (go_keep)
        (first | (go_at_call 36; refine (tofK' _ _ _ _ _ _ _).mono ?_; rintro e w2 ⟨rfl, h2⟩; have K2 := hidden (K0.out.drew.two h2); obtain ⟨p0, p1, p2, p3, p4, p5⟩ := K2.out.six; simp only [kV] at p0 p1 p2 p3 p4 p5; clear h2) | (go_at_call 13; refine (target13' _ _ _ _).mono ?_; rintro e w3 ⟨rfl, h3⟩; have K3 := hidden (K2.out.two h3); obtain ⟨r0, r1, r2, r3, r4, r5⟩ := K3.out.six; simp only [kV] at r0 r1 r2 r3 r4 r5; obtain ⟨f, ⟨d0, z0⟩, ⟨d1, z1⟩, ⟨d2, z2⟩, ⟨d3, z3⟩, ⟨d4, z4⟩, ⟨d5, z5⟩⟩ := K3.out.cells hlt; clear h3))
      go_wp2
      go_roundw
      case rel => exact ⟨k + 1, by omega, by go_num, K3.out.out.set6 rfl rfl rfl rfl rfl rfl⟩
      case measure => simp [intOf]; omega
    · have e : n = k := by omega
      subst e
      clear ho
      go_wp2
      go_ret
      exact ⟨rfl, OO.out⟩

set_option maxRecDepth 100000 in
set_option maxHeartbeats 4000000 in
theorem gpus23 (ad : Addr) (n c hi : Nat) (g : Nat → G6) (w : World) (hn : n ≤ 4096) (hhi : hi ≤ w.heap.size) (hr : SRow w hi (some ad) n 6 (gV g)) :
    Calls Try.prog 23 #[.slice (some ad) n c] w fun e w' => e = .returned (.slice (some ⟨w.heap.size, 0, none⟩) n n) ∧ OR w 75 n 6 (gV g) n w' := by
  have hq := fun w => Lib.run_eql_slice_nil (P := Try.prog) w 37 55 (some ad) n c 0 0 Try.underlying37
  obtain ⟨cs, hcs, hmk⟩ := make46 n (by omega) w
  have O0 := hidden (OR.start (e := 75) (V := gV g) w cs hcs)
  have HR := hidden hr
  clear hr hcs
  go_enter Try.func23, Try.ntmps23
  go_wp2
  go_loopw [4] (fun i wr => ∃ k : Nat, k ≤ n ∧ i = .int .i64 k ∧ OR w 75 n 6 (gV g) k wr) (fun i _ => n - (intOf i).toNat)
  case atStart => exact ⟨0, Nat.zero_le _, rfl, O0.out⟩
  case round =>
    obtain ⟨k, hk, rfl, ho⟩ := hrel
    have OO := hidden ho
    clear O0 hmk hq
    by_cases hlt : k < n
    · rcases HR.out.below ho.below hhi with h0 | ⟨b, o, hae, hbh, hc⟩
      · omega
      obtain rfl : ad = ⟨b, o, none⟩ := by simpa using hae
      clear hae
      have K0 : Hid (KF w 75 n (gV g) k b (o + k * 6) wr) := ⟨⟨ho, ⟨hc k hlt 0 (by omega), hc k hlt 1 (by omega), hc k hlt 2 (by omega), hc k hlt 3 (by omega), hc k hlt 4 (by omega), hc k hlt 5 (by omega)⟩, by have := ho.below.size; omega⟩⟩
      have hne : ¬ (b = w.heap.size) := by omega
      have hne' : ¬ (w.heap.size = b) := by omega
      obtain ⟨c0, c1, c2, c3, c4, c5⟩ := K0.out.six
      simp only [gV] at c0 c1 c2 c3 c4 c5
      clear hc ho
      go_wp2_with fail
      go_region_held3 (fun w' => w'.cell? ⟨b, o + k * 6, none⟩ = some (.int .i64 (g k).ix) ∧ w'.cell? ⟨b, o + k * 6 + 1, none⟩ = some (.string (g k).t.be) ∧ w'.cell? ⟨b, o + k * 6 + 2, none⟩ = some (.string (g k).t.ar) ∧ w'.cell? ⟨b, o + k * 6 + 3, none⟩ = some (.int .i64 (g k).t.ws) ∧ w'.cell? ⟨b, o + k * 6 + 4, none⟩ = some (.string (g k).pr) ∧ w'.cell? ⟨b, o + k * 6 + 5, none⟩ = some (.string (g k).dr)) (go_keep)
        (first | (go_at_call 27; refine (tofG' _ _ _ _ _ _ _).mono ?_; rintro e w2 ⟨rfl, h2⟩; have K2 := hidden (K0.out.drew.two h2); obtain ⟨p0, p1, p2, p3, p4, p5⟩ := K2.out.six; simp only [gV] at p0 p1 p2 p3 p4 p5; clear h2) | (go_at_call 13; refine (target13' _ _ _ _).mono ?_; rintro e w3 ⟨rfl, h3⟩; have K3 := hidden (K2.out.two h3); obtain ⟨r0, r1, r2, r3, r4, r5⟩ := K3.out.six; simp only [gV] at r0 r1 r2 r3 r4 r5; obtain ⟨f, ⟨d0, z0⟩, ⟨d1, z1⟩, ⟨d2, z2⟩, ⟨d3, z3⟩, ⟨d4, z4⟩, ⟨d5, z5⟩⟩ := K3.out.cells hlt; clear h3))
      go_wp2
      go_roundw
      case rel => exact ⟨k + 1, by omega, by go_num, K3.out.out.set6 rfl rfl rfl rfl rfl rfl⟩
      case measure => simp [intOf]; omega
    · have e : n = k := by omega
      subst e
      clear ho
      go_wp2
      go_ret
      exact ⟨rfl, OO.out⟩

set_option maxHeartbeats 1000000 in
theorem kernels25_nil (w : World) : Calls Try.prog 25 #[.slice none 0 0] w fun e w' => e = .returned (.slice none 0 0) ∧ w' = w := by
  have hq := fun w => Lib.run_eql_slice_nil (P := Try.prog) w 39 60 none 0 0 0 0 Try.underlying39
  go_enter Try.func25, Try.ntmps25
  go_wp2
  go_ret
  exact ⟨rfl, rfl⟩

set_option maxHeartbeats 1000000 in
theorem gpus23_nil (w : World) : Calls Try.prog 23 #[.slice none 0 0] w fun e w' => e = .returned (.slice none 0 0) ∧ w' = w := by
  have hq := fun w => Lib.run_eql_slice_nil (P := Try.prog) w 37 55 none 0 0 0 0 Try.underlying37
  go_enter Try.func23, Try.ntmps23
  go_wp2
  go_ret
  exact ⟨rfl, rfl⟩

theorem Try.info9 : (Try.prog.info? 9).map (fun i => (i.zero, i.size, i.bytes)) = some (some (.string ⟨#[]⟩), 1, 16) := by kernel_rfl

set_option maxRecDepth 100000 in
set_option maxHeartbeats 1000000 in
theorem cloneS (a : Option Addr) (n c hi : Nat) (s : Nat → ByteArray) (w : World) (hn : n ≤ 65536) (hnil : a = none → n = 0 ∧ c = 0) (hhi : hi ≤ w.heap.size) (hr : SRow w hi a n 1 (sV s)) :
    Calls Try.prog 32 #[.slice a n c] w fun e w' => (∃ a', e = .returned (.slice a' n n)) ∧ Below w.heap.size w w' := by
  cases a with
  | none =>
    obtain ⟨rfl, rfl⟩ := hnil rfl
    have hq := fun w => Lib.run_eql_slice_nil (P := Try.prog) w 61 9 none 0 0 0 0 Try.underlying61
    go_enter Try.func32, Try.ntmps32
    go_wp2
    go_ret
    exact ⟨⟨_, rfl⟩, Below.refl _ _⟩
  | some ad =>
    have hq := fun w => Lib.run_eql_slice_nil (P := Try.prog) w 61 9 (some ad) n c 0 0 Try.underlying61
    have hmk := run_make_row' (P := Try.prog) 61 9 (.string ⟨#[]⟩) 16 Try.underlying61 Try.info9 rfl .i64 .i64 n (by omega) (by omega)
    have HR := hidden hr
    clear hr hnil
    go_enter Try.func32, Try.ntmps32
    go_wp2
    go_loopw [4] (fun i wr => ∃ (k : Nat) (f : Nat → Value), k ≤ n ∧ i = .int .i64 k ∧ Below w.heap.size w wr ∧ wr.rowIs w.heap.size 9 n f) (fun i _ => n - (intOf i).toNat)
    case atStart => exact ⟨0, _, Nat.zero_le _, rfl, (Below.refl _ _).alloc (Nat.le_refl _) _, World.rowIs_made w _ _ _⟩
    case round =>
      obtain ⟨k, f, hk, rfl, hb, hf⟩ := hrel
      have BB := hidden hb
      have FF := hidden hf
      clear hmk hq
      by_cases hlt : k < n
      · rcases HR.out.below hb hhi with h0 | ⟨b, o, hae, hbh, hc⟩
        · omega
        obtain rfl : ad = ⟨b, o, none⟩ := by simpa using hae
        have c0 : wr.cell? ⟨b, o + k, none⟩ = some (.string (s k)) := by have := hc k hlt 0 (by omega); rw [Nat.mul_one, Nat.add_zero] at this; exact this
        have d0 := hf.cell hlt
        have z0 := hf.frozen k
        clear hae hc hb hf
        go_wp2
        go_roundw
        case rel => exact ⟨k + 1, _, by omega, by go_num, BB.out.setCell (Nat.le_refl _) _, FF.out.set k _⟩
        case measure => simp [intOf]; omega
      · have e : n = k := by omega
        subst e
        clear hb hf
        go_wp2
        go_ret
        exact ⟨⟨_, rfl⟩, BB.out⟩

end Go.Proofs.Qxb6605253a
