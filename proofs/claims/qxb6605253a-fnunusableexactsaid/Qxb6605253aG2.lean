/-
  ROWS OF STRUCTS; zb1TsOfG.
-/
import Derived.Test.Qxb6605253aG1
namespace Go.Proofs.Qxb6605253a
open Go.RowKit
set_option linter.unusedVariables false
set_option linter.unusedSimpArgs false

/-- Hidden from the walk. -/
structure Hid (p : Prop) : Prop where
  out : p
theorem hidden {p : Prop} (h : p) : Hid p := ⟨h⟩

/-- A row of n structs of c cells each. -/
def SRow (w : World) (hi : Nat) (a : Option Addr) (n c : Nat) (V : Nat → Nat → Value) : Prop :=
  n = 0 ∨ ∃ b o, a = some ⟨b, o, none⟩ ∧ b < hi ∧ ∀ i, i < n → ∀ j, j < c → w.cell? ⟨b, o + i * c + j, none⟩ = some (V i j)

theorem SRow.below {w w' : World} {hi M : Nat} {a : Option Addr} {n c : Nat} {V : Nat → Nat → Value} (h : SRow w hi a n c V) (hb : Below M w w') (hM : hi ≤ M) : SRow w' hi a n c V := by
  rcases h with h | ⟨b, o, h1, h2, h3⟩
  · exact .inl h
  · refine .inr ⟨b, o, h1, h2, fun i hi j hj => ?_⟩
    rw [World.cell?_of_block (a := ⟨b, o + i * c + j, none⟩) (hb.block b (by omega))]
    exact h3 i hi j hj

theorem SRow.wide {w : World} {hi hi' : Nat} {a : Option Addr} {n c : Nat} {V : Nat → Nat → Value} (h : SRow w hi a n c V) (h2 : hi ≤ hi') : SRow w hi' a n c V := by
  rcases h with h | ⟨b, o, h1, h3, h4⟩
  · exact .inl h
  · exact .inr ⟨b, o, h1, by omega, h4⟩

/-- A GPU. -/
structure G6 where
  ix : Int
  t : T3
  pr : ByteArray
  dr : ByteArray

/-- A kernel. -/
structure K6 where
  en : ByteArray
  nm : ByteArray
  t : T3
  tv : ByteArray

def gV (g : Nat → G6) (i : Nat) : Nat → Value
  | 0 => .int .i64 (g i).ix
  | 1 => .string (g i).t.be
  | 2 => .string (g i).t.ar
  | 3 => .int .i64 (g i).t.ws
  | 4 => .string (g i).pr
  | _ => .string (g i).dr

def kV (k : Nat → K6) (i : Nat) : Nat → Value
  | 0 => .string (k i).en
  | 1 => .string (k i).nm
  | 2 => .string (k i).t.be
  | 3 => .string (k i).t.ar
  | 4 => .int .i64 (k i).t.ws
  | _ => .string (k i).tv

def tV (t : Nat → T3) (i : Nat) : Nat → Value
  | 0 => .string (t i).be
  | 1 => .string (t i).ar
  | _ => .int .i64 (t i).ws

theorem Below.two {w w' w2 : World} {N : Nat} (h : Below N w w') (hN : N ≤ w'.heap.size) (h2 : Two w' w2) : Below N w w2 := by
  obtain ⟨o1, o2, rfl⟩ := h2
  exact (h.alloc hN _).alloc (by simp; omega) _

/-- A new row of n structs of c cells, of which k are laid. -/
structure OR (w : World) (e n c : Nat) (V : Nat → Nat → Value) (k : Nat) (wr : World) : Prop where
  below : Below w.heap.size w wr
  row : ∃ f, wr.rowIs w.heap.size e (n * c) f ∧ ∀ i, i < k → ∀ j, j < c → f (i * c + j) = V i j

section
variable {w wr w2 : World} {e n c k : Nat} {V : Nat → Nat → Value}

theorem OR.start (w : World) (cs : Array Value) (hcs : cs.size = n * c) : OR w e n c V 0 (w.alloc (.cells cs e)) := by
  refine ⟨(Below.refl _ _).alloc (Nat.le_refl _) _, fun p => (cs[p]?).getD undef, ?_, fun i h => absurd h (Nat.not_lt_zero _)⟩
  have := World.rowIs_alloc w cs e (fun p => (cs[p]?).getD undef) (fun i hi => by rw [Array.getElem?_eq_getElem hi]; rfl)
  rwa [hcs] at this

theorem OR.lt (h : OR w e n c V k wr) : w.heap.size < wr.heap.size := by
  obtain ⟨f, hf, _⟩ := h.row
  exact hf.lt

theorem OR.two (h : OR w e n c V k wr) (h2 : Two wr w2) : OR w e n c V k w2 := by
  have hl := h.lt
  refine ⟨Below.two h.below (by omega) h2, ?_⟩
  obtain ⟨f, hf, hk⟩ := h.row
  obtain ⟨o1, o2, rfl⟩ := h2
  exact ⟨f, (hf.alloc _).alloc _, hk⟩

theorem OR.drewN (h : OR w e n c V k wr) (m : Nat) : OR w e n c V k (wr.drewN m) := by
  have hb : ∀ m, (wr.drewN m).heap = wr.heap ∧ Below w.heap.size w (wr.drewN m) := fun m => by
    induction m with
    | zero => exact ⟨rfl, h.below⟩
    | succ m ih => exact ⟨ih.1, ⟨ih.2.os, ih.2.tape, ih.2.output, ih.2.size, ih.2.block⟩⟩
  obtain ⟨f, hf, hk⟩ := h.row
  exact ⟨(hb m).2, f, hf.of_block (by rw [(hb m).1]), hk⟩

/-- The cells of the new row. -/
theorem OR.at (h : OR w e n c V k wr) : ∃ f : Nat → Value, (∀ p, p < n * c → wr.cell? ⟨w.heap.size, p, none⟩ = some (f p)) ∧ ∀ p, wr.frozen? ⟨w.heap.size, p, none⟩ = false := by
  obtain ⟨f, hf, _⟩ := h.row
  exact ⟨f, fun p hp => hf.cell hp, fun p => hf.frozen p⟩

theorem slot_ne {i k c j p : Nat} (h : i < k) (hj : j < c) (hp : k * c ≤ p) : i * c + j ≠ p := by
  have : (i + 1) * c ≤ k * c := Nat.mul_le_mul_right _ h
  rw [Nat.add_mul, Nat.one_mul] at this
  omega

theorem OR.set3 (h : OR w e n 3 V k wr) {v0 v1 v2 : Value} (e0 : V k 0 = v0) (e1 : V k 1 = v1) (e2 : V k 2 = v2) :
    OR w e n 3 V (k + 1) (((wr.setCell ⟨w.heap.size, k * 3, none⟩ v0).setCell ⟨w.heap.size, k * 3 + 1, none⟩ v1).setCell ⟨w.heap.size, k * 3 + 2, none⟩ v2) := by
  obtain ⟨f, hf, hk⟩ := h.row
  refine ⟨((h.below.setCell (Nat.le_refl _) _).setCell (Nat.le_refl _) _).setCell (Nat.le_refl _) _, _, ((hf.set _ v0).set _ v1).set _ v2, fun i hi j hj => ?_⟩
  by_cases ei : i = k
  · subst ei
    have hj3 : j = 0 ∨ j = 1 ∨ j = 2 := by omega
    rcases hj3 with rfl | rfl | rfl
    · rw [if_neg (by omega), if_neg (by omega), if_pos (by omega), e0]
    · rw [if_neg (by omega), if_pos (by omega), e1]
    · rw [if_pos (by omega), e2]
  · have hlt : i < k := by omega
    rw [if_neg (slot_ne hlt hj (by omega)), if_neg (slot_ne hlt hj (by omega)), if_neg (slot_ne hlt hj (by omega))]
    exact hk i hlt j hj

theorem OR.set6 (h : OR w e n 6 V k wr) {v0 v1 v2 v3 v4 v5 : Value} (e0 : V k 0 = v0) (e1 : V k 1 = v1) (e2 : V k 2 = v2) (e3 : V k 3 = v3) (e4 : V k 4 = v4) (e5 : V k 5 = v5) :
    OR w e n 6 V (k + 1) ((((((wr.setCell ⟨w.heap.size, k * 6, none⟩ v0).setCell ⟨w.heap.size, k * 6 + 1, none⟩ v1).setCell ⟨w.heap.size, k * 6 + 2, none⟩ v2).setCell ⟨w.heap.size, k * 6 + 3, none⟩ v3).setCell ⟨w.heap.size, k * 6 + 4, none⟩ v4).setCell ⟨w.heap.size, k * 6 + 5, none⟩ v5) := by
  obtain ⟨f, hf, hk⟩ := h.row
  refine ⟨(((((h.below.setCell (Nat.le_refl _) _).setCell (Nat.le_refl _) _).setCell (Nat.le_refl _) _).setCell (Nat.le_refl _) _).setCell (Nat.le_refl _) _).setCell (Nat.le_refl _) _, _, (((((hf.set _ v0).set _ v1).set _ v2).set _ v3).set _ v4).set _ v5, fun i hi j hj => ?_⟩
  by_cases ei : i = k
  · subst ei
    have hj3 : j = 0 ∨ j = 1 ∨ j = 2 ∨ j = 3 ∨ j = 4 ∨ j = 5 := by omega
    rcases hj3 with rfl | rfl | rfl | rfl | rfl | rfl
    · rw [if_neg (by omega), if_neg (by omega), if_neg (by omega), if_neg (by omega), if_neg (by omega), if_pos (by omega), e0]
    · rw [if_neg (by omega), if_neg (by omega), if_neg (by omega), if_neg (by omega), if_pos (by omega), e1]
    · rw [if_neg (by omega), if_neg (by omega), if_neg (by omega), if_pos (by omega), e2]
    · rw [if_neg (by omega), if_neg (by omega), if_pos (by omega), e3]
    · rw [if_neg (by omega), if_pos (by omega), e4]
    · rw [if_pos (by omega), e5]
  · have hlt : i < k := by omega
    rw [if_neg (slot_ne hlt hj (by omega)), if_neg (slot_ne hlt hj (by omega)), if_neg (slot_ne hlt hj (by omega)), if_neg (slot_ne hlt hj (by omega)), if_neg (slot_ne hlt hj (by omega)), if_neg (slot_ne hlt hj (by omega))]
    exact hk i hlt j hj

theorem OR.srow (h : OR w e n c V n wr) : SRow wr wr.heap.size (some ⟨w.heap.size, 0, none⟩) n c V := by
  obtain ⟨f, hf, hk⟩ := h.row
  refine .inr ⟨_, 0, rfl, h.lt, fun i hi j hj => ?_⟩
  rw [Nat.zero_add, hf.cell, hk i hi j hj]
  have : (i + 1) * c ≤ n * c := Nat.mul_le_mul_right _ hi
  rw [Nat.add_mul, Nat.one_mul] at this
  omega
end

theorem make24 (n : Nat) (hn : n ≤ 1048576) (w : World) : ∃ cs : Array Value, cs.size = n * 3 ∧ (Instr.makeSlice 24 (.int .i64 n) (.int .i64 n)).run Try.prog w = .ok (.slice (some ⟨w.heap.size, 0, none⟩) n n) (w.alloc (.cells cs 23)) := by
  have hin : (Try.prog.info? 23).map (fun i => (i.zero, i.size, i.bytes)) = some (some (.agg #[.string ⟨#[]⟩, .string ⟨#[]⟩, .int .i64 0]), 3, 40) := by kernel_rfl
  obtain ⟨i, hi, hzz⟩ := Option.map_eq_some_iff.1 hin
  simp only [Prod.mk.injEq] at hzz
  obtain ⟨hz, hs, hb⟩ := hzz
  have hr := run_make (P := Try.prog) w 24 23 i _ Try.underlying24 hi hz .i64 .i64 n n (by omega) (Int.le_refl _) (by rw [hb]; omega) (by omega)
  rw [hs] at hr
  simp only [Int.toNat_natCast] at hr
  exact ⟨_, by simp [madeCells], hr⟩

set_option maxRecDepth 100000 in
set_option maxHeartbeats 1000000 in
theorem tsOfG (a : Option Addr) (n c hi : Nat) (g : Nat → G6) (w : World) (hn : n ≤ 4096) (hhi : hi ≤ w.heap.size) (hr : SRow w hi a n 6 (gV g)) :
    Calls Try.prog 34 #[.slice a n c] w fun e w' => e = .returned (.slice (some ⟨w.heap.size, 0, none⟩) n n) ∧ OR w 23 n 3 (tV fun i => (g i).t) n w' := by
  obtain ⟨cs, hcs, hmk⟩ := make24 n (by omega) w
  have O0 := hidden (OR.start (e := 23) (V := tV fun i => (g i).t) w cs hcs)
  have HR := hidden hr
  clear hr hcs
  go_enter Try.func34, Try.ntmps34
  go_wp2
  go_loopw [4] (fun i wr => ∃ k : Nat, k ≤ n ∧ i = .int .i64 k ∧ OR w 23 n 3 (tV fun i => (g i).t) k wr) (fun i _ => n - (intOf i).toNat)
  case atStart => exact ⟨0, Nat.zero_le _, rfl, O0.out⟩
  case round =>
    obtain ⟨k, hk, rfl, ho⟩ := hrel
    have OO := hidden ho
    clear O0 hmk
    by_cases hlt : k < n
    · rcases HR.out.below ho.below hhi with h0 | ⟨b, o, rfl, hbh, hc⟩
      · omega
      have c0 : wr.cell? ⟨b, o + k * 6, none⟩ = some (.int .i64 (g k).ix) := hc k hlt 0 (by omega)
      have c1 : wr.cell? ⟨b, o + k * 6 + 1, none⟩ = some (.string (g k).t.be) := hc k hlt 1 (by omega)
      have c2 : wr.cell? ⟨b, o + k * 6 + 2, none⟩ = some (.string (g k).t.ar) := hc k hlt 2 (by omega)
      have c3 : wr.cell? ⟨b, o + k * 6 + 3, none⟩ = some (.int .i64 (g k).t.ws) := hc k hlt 3 (by omega)
      have c4 : wr.cell? ⟨b, o + k * 6 + 4, none⟩ = some (.string (g k).pr) := hc k hlt 4 (by omega)
      have c5 : wr.cell? ⟨b, o + k * 6 + 5, none⟩ = some (.string (g k).dr) := hc k hlt 5 (by omega)
      clear hc ho
      go_wp2_with fail
      refine (tofG _ _ _ _ _ _ _).mono ?_
      rintro e w2 ⟨rfl, h2⟩
      have O2 := hidden (OO.out.two h2)
      obtain ⟨f, hf, hz⟩ := O2.out.at
      have d0 := hf (k * 3) (by omega)
      have d1 := hf (k * 3 + 1) (by omega)
      have d2 := hf (k * 3 + 2) (by omega)
      have z0 := hz (k * 3)
      have z1 := hz (k * 3 + 1)
      have z2 := hz (k * 3 + 2)
      clear hf hz h2
      unfold T3.val
      go_wp2
      go_roundw
      case rel => exact ⟨k + 1, by omega, by go_num, O2.out.set3 rfl rfl rfl⟩
      case measure => simp [intOf]; omega
    · have e : n = k := by omega
      subst e
      clear ho
      go_wp2
      go_ret
      exact ⟨rfl, OO.out⟩

/-! ### The sizes: they return; what, does not matter -/

def RetSize (e : Ending) : Prop := ∃ r : Int, e = .returned (.int .i64 r) ∧ 0 ≤ r ∧ r ≤ 1048577

set_option maxHeartbeats 1000000 in
theorem add11 (n l : Int) (w : World) (h0 : 0 ≤ n) (h1 : n ≤ 1048577) : Calls Try.prog 11 #[.int .i64 n, .int .i64 l] w fun e w' => RetSize e ∧ w' = w := by
  by_cases a1 : (1048576 : Int) < n
  · go_enter Try.func11, Try.ntmps11
    go_wp2
    go_ret
    exact ⟨⟨_, rfl, by omega, by omega⟩, rfl⟩
  by_cases a2 : l < 0
  · go_enter Try.func11, Try.ntmps11
    go_wp2
    go_ret
    exact ⟨⟨_, rfl, by omega, by omega⟩, rfl⟩
  by_cases a3 : 1048576 - n < l
  · go_enter Try.func11, Try.ntmps11
    go_wp2
    go_ret
    exact ⟨⟨_, rfl, by omega, by omega⟩, rfl⟩
  · go_enter Try.func11, Try.ntmps11
    go_wp2
    go_ret
    exact ⟨⟨_, rfl, by omega, by omega⟩, rfl⟩

end Go.Proofs.Qxb6605253a
