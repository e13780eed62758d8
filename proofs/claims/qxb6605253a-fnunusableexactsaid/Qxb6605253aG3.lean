/-
  WALKS: zb1SizeS, zb1SizeG, zb1SizeK.
-/
import Derived.Test.Qxb6605253aG2
namespace Go.Proofs.Qxb6605253a
open Go.RowKit
set_option linter.unusedVariables false
set_option linter.unusedSimpArgs false

def sV (s : Nat → ByteArray) (i : Nat) (_ : Nat) : Value := .string (s i)

set_option maxRecDepth 100000 in
set_option maxHeartbeats 1000000 in
theorem sizeS (z : Int) (a : Option Addr) (n c : Nat) (s : Nat → ByteArray) (w : World) (h0 : 0 ≤ z) (h1 : z ≤ 1048577) (hn : n ≤ 65536) (hr : SRow w w.heap.size a n 1 (sV s)) :
    Calls Try.prog 31 #[.int .i64 z, .slice a n c] w fun e w' => RetSize e ∧ w' = w := by
  have HR := hidden hr
  clear hr
  go_enter Try.func31, Try.ntmps31
  go_wp2
  go_loop [0, 5] (fun x i => ∃ (k : Nat) (z : Int), k ≤ n ∧ x = .int .i64 z ∧ i = .int .i64 k ∧ 0 ≤ z ∧ z ≤ 1048577) (fun _ i => n - (intOf i).toNat)
  case atStart => exact ⟨0, z, Nat.zero_le _, rfl, rfl, h0, h1⟩
  case round =>
    obtain ⟨k, z, hk, rfl, rfl, z0, z1⟩ := hrel
    by_cases hlt : k < n
    · rcases HR.out with e0 | ⟨b, o, rfl, hbh, hc⟩
      · omega
      have c0 : w.cell? ⟨b, o + k, none⟩ = some (.string (s k)) := by have := hc k hlt 0 (by omega); rw [Nat.mul_one, Nat.add_zero] at this; exact this
      clear hc
      go_wp2_with fail
      refine (add11 _ _ _ z0 z1).mono ?_
      rintro e w2 ⟨⟨r1, rfl, p0, p1⟩, rfl⟩
      go_wp2_with fail
      refine (add11 _ _ _ p0 p1).mono ?_
      rintro e w2 ⟨⟨r2, rfl, q0, q1⟩, rfl⟩
      go_wp2
      go_round
      case rel => exact ⟨k + 1, r2, by omega, rfl, by go_num, q0, q1⟩
      case measure => simp [intOf]; omega
    · have e : n = k := by omega
      subst e
      go_wp2
      go_ret
      exact ⟨⟨z, rfl, z0, z1⟩, rfl⟩

set_option maxRecDepth 100000 in
set_option maxHeartbeats 1000000 in
theorem sizeG (z : Int) (a : Option Addr) (n c : Nat) (g : Nat → G6) (w : World) (h0 : 0 ≤ z) (h1 : z ≤ 1048577) (hn : n ≤ 4096) (hr : SRow w w.heap.size a n 6 (gV g)) :
    Calls Try.prog 21 #[.int .i64 z, .slice a n c] w fun e w' => RetSize e ∧ w' = w := by
  have HR := hidden hr
  clear hr
  go_enter Try.func21, Try.ntmps21
  go_wp2
  go_loop [0, 5] (fun x i => ∃ (k : Nat) (z : Int), k ≤ n ∧ x = .int .i64 z ∧ i = .int .i64 k ∧ 0 ≤ z ∧ z ≤ 1048577) (fun _ i => n - (intOf i).toNat)
  case atStart => exact ⟨0, z, Nat.zero_le _, rfl, rfl, h0, h1⟩
  case round =>
    obtain ⟨k, z, hk, rfl, rfl, z0, z1⟩ := hrel
    by_cases hlt : k < n
    · rcases HR.out with e0 | ⟨b, o, rfl, hbh, hc⟩
      · omega
      have c1 : w.cell? ⟨b, o + k * 6 + 1, none⟩ = some (.string (g k).t.be) := hc k hlt 1 (by omega)
      have c2 : w.cell? ⟨b, o + k * 6 + 2, none⟩ = some (.string (g k).t.ar) := hc k hlt 2 (by omega)
      have c4 : w.cell? ⟨b, o + k * 6 + 4, none⟩ = some (.string (g k).pr) := hc k hlt 4 (by omega)
      have c5 : w.cell? ⟨b, o + k * 6 + 5, none⟩ = some (.string (g k).dr) := hc k hlt 5 (by omega)
      clear hc
      go_wp2_with fail
      refine (add11 _ _ _ z0 z1).mono ?_
      rintro e w2 ⟨⟨r1, rfl, p0, p1⟩, rfl⟩
      go_wp2_with fail
      refine (add11 _ _ _ p0 p1).mono ?_
      rintro e w2 ⟨⟨r2, rfl, p2, p3⟩, rfl⟩
      go_wp2_with fail
      refine (add11 _ _ _ p2 p3).mono ?_
      rintro e w2 ⟨⟨r3, rfl, p4, p5⟩, rfl⟩
      go_wp2_with fail
      refine (add11 _ _ _ p4 p5).mono ?_
      rintro e w2 ⟨⟨r4, rfl, p6, p7⟩, rfl⟩
      go_wp2_with fail
      refine (add11 _ _ _ p6 p7).mono ?_
      rintro e w2 ⟨⟨r5, rfl, q0, q1⟩, rfl⟩
      go_wp2
      go_round
      case rel => exact ⟨k + 1, r5, by omega, rfl, by go_num, q0, q1⟩
      case measure => simp [intOf]; omega
    · have e : n = k := by omega
      subst e
      go_wp2
      go_ret
      exact ⟨⟨z, rfl, z0, z1⟩, rfl⟩

set_option maxRecDepth 100000 in
set_option maxHeartbeats 1000000 in
theorem sizeK (z : Int) (a : Option Addr) (n c : Nat) (q : Nat → K6) (w : World) (h0 : 0 ≤ z) (h1 : z ≤ 1048577) (hn : n ≤ 4096) (hr : SRow w w.heap.size a n 6 (kV q)) :
    Calls Try.prog 19 #[.int .i64 z, .slice a n c] w fun e w' => RetSize e ∧ w' = w := by
  have HR := hidden hr
  clear hr
  go_enter Try.func19, Try.ntmps19
  go_wp2
  go_loop [0, 5] (fun x i => ∃ (k : Nat) (z : Int), k ≤ n ∧ x = .int .i64 z ∧ i = .int .i64 k ∧ 0 ≤ z ∧ z ≤ 1048577) (fun _ i => n - (intOf i).toNat)
  case atStart => exact ⟨0, z, Nat.zero_le _, rfl, rfl, h0, h1⟩
  case round =>
    obtain ⟨k, z, hk, rfl, rfl, z0, z1⟩ := hrel
    by_cases hlt : k < n
    · rcases HR.out with e0 | ⟨b, o, rfl, hbh, hc⟩
      · omega
      have c0 : w.cell? ⟨b, o + k * 6, none⟩ = some (.string (q k).en) := hc k hlt 0 (by omega)
      have c1 : w.cell? ⟨b, o + k * 6 + 1, none⟩ = some (.string (q k).nm) := hc k hlt 1 (by omega)
      have c2 : w.cell? ⟨b, o + k * 6 + 2, none⟩ = some (.string (q k).t.be) := hc k hlt 2 (by omega)
      have c3 : w.cell? ⟨b, o + k * 6 + 3, none⟩ = some (.string (q k).t.ar) := hc k hlt 3 (by omega)
      have c5 : w.cell? ⟨b, o + k * 6 + 5, none⟩ = some (.string (q k).tv) := hc k hlt 5 (by omega)
      clear hc
      go_wp2_with fail
      refine (add11 _ _ _ z0 z1).mono ?_
      rintro e w2 ⟨⟨r1, rfl, p0, p1⟩, rfl⟩
      go_wp2_with fail
      refine (add11 _ _ _ p0 p1).mono ?_
      rintro e w2 ⟨⟨r2, rfl, p2, p3⟩, rfl⟩
      go_wp2_with fail
      refine (add11 _ _ _ p2 p3).mono ?_
      rintro e w2 ⟨⟨r3, rfl, p4, p5⟩, rfl⟩
      go_wp2_with fail
      refine (add11 _ _ _ p4 p5).mono ?_
      rintro e w2 ⟨⟨r4, rfl, p6, p7⟩, rfl⟩
      go_wp2_with fail
      refine (add11 _ _ _ p6 p7).mono ?_
      rintro e w2 ⟨⟨r5, rfl, p8, p9⟩, rfl⟩
      go_wp2_with fail
      refine (add11 _ _ _ p8 p9).mono ?_
      rintro e w2 ⟨⟨r6, rfl, q0, q1⟩, rfl⟩
      go_wp2
      go_round
      case rel => exact ⟨k + 1, r6, by omega, rfl, by go_num, q0, q1⟩
      case measure => simp [intOf]; omega
    · have e : n = k := by omega
      subst e
      go_wp2
      go_ret
      exact ⟨⟨z, rfl, z0, z1⟩, rfl⟩

end Go.Proofs.Qxb6605253a
