/-
  WALKS: zzBytes_.., cloneBytes, allDigits, digitsValue.
-/
import Derived.Test.Qxb6604269aRows
import Derived.Test.Qxb6604269aPl
import Derived.WalkKit
import Derived.WalkSpells
import Derived.WalkLawsBesides
import Derived.Deep.OwnRows
namespace Go.Proofs.Qxb6604269a
open Go.RowKit Pl

theorem hidden {p : Prop} (h : p) : Hid p := h

/-- The first 'len' bytes from offset o of block b on are 'Z'. -/
def Bytes (w : World) (b o len : Nat) (Z : Nat → Int) : Prop :=
  (∀ k, k < len → w.cell? ⟨b, o + k, none⟩ = some (.int .u8 (Z k))) ∧ ∀ k, k < len → 0 ≤ Z k ∧ Z k ≤ 255

set_option maxHeartbeats 400000 in
theorem bytes_any (a : Option Addr) (len cap : Nat) (i : Int) (w : World) (hl : len ≤ maxLen) :
    Calls Try.prog 8 #[.slice a len cap, .int .i64 i] w fun e w' => e = .returned (.bool (decide (len ≤ 1048576))) ∧ w' = w := by
  unfold maxLen at hl
  by_cases h : (len : Int) ≤ 1048576
  all_goals
    go_enter Try.func8, Try.ntmps8
    go_wp2
    go_ret
    exact ⟨by simp; omega, rfl⟩

set_option maxHeartbeats 400000 in
theorem digits_yes (b o len cap : Nat) (Z : Nat → Int) (s k : Nat) (w : World) (hB : Bytes w b o len Z) (hl : len ≤ 1048576) (hk : s + k ≤ len) (hd : Digs Z s k) :
    Calls Try.prog 20 #[.slice (some ⟨b, o, none⟩) len cap, .int .i64 s, .int .i64 (s + k)] w fun e w' => e = .returned (.bool true) ∧ w' = w := by
  go_enter Try.func20, Try.ntmps20
  go_wp2
  go_loop [7] (fun i => ∃ j : Nat, j ≤ k ∧ i = .int .i64 (s + j)) (fun i => (s + k) - (intOf i).toNat)
  case atStart => exact ⟨0, by omega, by go_num⟩
  case round =>
    obtain ⟨j, hj, rfl⟩ := hrel
    by_cases hlt : j < k
    · have c := hB.1 (s + j) (by omega)
      have d := hd j hlt
      unfold isDig at d
      obtain ⟨d1, d2⟩ := d
      go_wp2
      go_round
      case rel => exact ⟨j + 1, by omega, by go_num⟩
      case measure => simp [intOf]; omega
    · go_wp2
      go_ret
      exact ⟨rfl, rfl⟩

set_option maxHeartbeats 400000 in
theorem digits_no (b o len cap : Nat) (Z : Nat → Int) (s k : Nat) (w : World) (hB : Bytes w b o len Z) (hl : len ≤ 1048576) (hk : s + k ≤ len) (hd : ¬ Digs Z s k) :
    Calls Try.prog 20 #[.slice (some ⟨b, o, none⟩) len cap, .int .i64 s, .int .i64 (s + k)] w fun e w' => e = .returned (.bool false) ∧ w' = w := by
  go_enter Try.func20, Try.ntmps20
  go_wp2
  go_loop [7] (fun i => ∃ j : Nat, j ≤ k ∧ Digs Z s j ∧ i = .int .i64 (s + j)) (fun i => (s + k) - (intOf i).toNat)
  case atStart => exact ⟨0, by omega, fun j hj => absurd hj (Nat.not_lt_zero _), by go_num⟩
  case round =>
    obtain ⟨j, hj, hdj, rfl⟩ := hrel
    by_cases hlt : j < k
    · have c := hB.1 (s + j) (by omega)
      by_cases d : isDig (Z (s + j))
      · have dd := hdj.succ d
        unfold isDig at d
        obtain ⟨d1, d2⟩ := d
        go_wp2
        go_round
        case rel => exact ⟨j + 1, by omega, dd, by go_num⟩
        case measure => simp [intOf]; omega
      · by_cases d1 : Z (s + j) < 48
        · go_wp2
          go_ret
          exact ⟨rfl, rfl⟩
        · have d2 : 57 < Z (s + j) := by unfold isDig at d; omega
          clear d
          go_wp2
          go_ret
          exact ⟨rfl, rfl⟩
    · exfalso
      have : j = k := by omega
      subst this
      exact hd hdj

theorem wrap_dig {z : Int} (h1 : 48 ≤ z) (h2 : z ≤ 57) : IntKind.u8.wrap (z - 48) = z - 48 := by
  simp [IntKind.wrap, IntKind.bits, IntKind.signed]; omega

theorem w64 {x : Int} (h1 : -4611686018427387904 ≤ x) (h2 : x ≤ 4611686018427387904) : wrap64 x = x := by
  unfold wrap64; omega

theorem ret_int {k : IntKind} {a b : Int} (h : a = b) : Ending.returned (.int k a) = .returned (.int k b) := by rw [h]
theorem int_eq {k : IntKind} {a b : Int} (h : a = b) : Value.int k a = .int k b := by rw [h]

theorem weigh {z p v : Int} (h1 : 48 ≤ z) (h2 : z ≤ 57) (hp0 : 0 < p) (hp : p ≤ 1000000000) (hv0 : 0 ≤ v) (hv1 : v ≤ 1000000000) : wrap64 (v + wrap64 ((z - 48) * p)) = (z - 48) * p + v := by
  have k1 : 0 ≤ (z - 48) * p := Int.mul_nonneg (by omega) (by omega)
  have k2 : (z - 48) * p ≤ 9 * 1000000000 := Int.mul_le_mul (by omega) hp (by omega) (by omega)
  rw [w64 (x := (z - 48) * p) (by omega) (by omega), w64 (by omega) (by omega)]
  omega

theorem pow10_succ (j : Nat) : (10 : Int) ^ (j + 1) = 10 ^ j * 10 := Int.pow_succ ..

set_option maxHeartbeats 400000 in
theorem value_any (b o len cap : Nat) (Z : Nat → Int) (s k : Nat) (w : World) (hB : Bytes w b o len Z) (hl : len ≤ 1048576) (hk : s + k ≤ len) (h9 : k ≤ 9) (hd : Digs Z s k) :
    Calls Try.prog 21 #[.slice (some ⟨b, o, none⟩) len cap, .int .i64 s, .int .i64 (s + k)] w fun e w' => e = .returned (.int .i64 (hv Z s k)) ∧ w' = w := by
  go_enter Try.func21, Try.ntmps21
  go_wp2
  go_loop [7, 8, 9] (fun v p i => ∃ j : Nat, j ≤ k ∧ v = .int .i64 (hv Z (s + k - j) j) ∧ p = .int .i64 (10 ^ j) ∧ i = .int .i64 (s + k - 1 - j)) (fun _ _ i => (intOf i + 1 - s).toNat)
  case atStart => exact ⟨0, by omega, rfl, rfl, by go_num⟩
  case round =>
    obtain ⟨j, hj, rfl, rfl, rfl⟩ := hrel
    by_cases hlt : j < k
    · have c := hB.1 (s + k - 1 - j) (by omega)
      have e1 : s + (k - 1 - j) = s + k - 1 - j := by omega
      have d := hd (k - 1 - j) (by omega)
      rw [e1] at d
      have hb := hv_le (Z := Z) (s := s + k - j) (k := j) (fun l hl => by have := hd (k - j + l) (by omega); rwa [show s + (k - j + l) = s + k - j + l by omega] at this) (by omega)
      have hf := hv_front Z (s + k - 1 - j) j
      rw [show s + k - 1 - j + 1 = s + k - j by omega] at hf
      have hp := pow_le9 (k := j) (by omega)
      have hp0 := pow_pos' j
      have HF := hidden hf
      clear hf
      obtain ⟨m, hm⟩ : ∃ m : Nat, s + k - 1 - j = m := ⟨_, rfl⟩
      have em : ((s : Int) + (k : Int) - 1 - (j : Int)) = (m : Int) := by omega
      rw [hm] at c d HF
      have HM := hidden hm
      unfold isDig at d
      obtain ⟨d1, d2⟩ := d
      have hw := wrap_dig d1 d2
      have HP := hidden (pow10_succ j)
      generalize (10 : Int) ^ j = p at *
      generalize hv Z (s + k - j) j = v at *
      clear hm
      go_wp2
      have e2 : s + k - (j + 1) = m := by have := HM.out; omega
      go_round
      case rel =>
        refine ⟨j + 1, by omega, int_eq ?_, int_eq ?_, int_eq (by omega)⟩
        · rw [e2, HF.out]; exact weigh d1 d2 hp0 hp hb.1 hb.2
        · exact HP.out.symm
      case measure => simp [intOf]; omega
    · have e : j = k := by omega
      subst e
      go_wp2
      go_ret
      exact ⟨rfl, rfl⟩

theorem Try.info5 : (Try.prog.info? 5).map (fun i => (i.zero, i.size, i.bytes)) = some (some (.int .u8 0), 1, 1) := by kernel_rfl

set_option maxHeartbeats 400000 in
theorem clone_nil (w : World) : Calls Try.prog 9 #[.slice none 0 0] w fun e w' => e = .returned (.slice none 0 0) ∧ w' = w := by
  have hq := fun w => Lib.run_eql_slice_nil (P := Try.prog) w 22 5 none 0 0 0 0 Try.underlying22
  go_enter Try.func9, Try.ntmps9
  go_wp2
  go_ret
  exact ⟨rfl, rfl⟩

theorem row_bytes {w : World} {N len : Nat} {Z : Nat → Int} {f : Nat → Value} (h : w.rowIs N 5 len f) (hf : ∀ k, k < len → f k = .int .u8 (Z k)) (hz : ∀ k, k < len → 0 ≤ Z k ∧ Z k ≤ 255) : Bytes w N 0 len Z :=
  ⟨fun k hk => by rw [Nat.zero_add, h.cell hk, hf k hk], hz⟩

theorem set_read {Z : Nat → Int} {f : Nat → Value} {k : Nat} (hf : ∀ k', k' < k → f k' = .int .u8 (Z k')) : ∀ k', k' < k + 1 → (fun j => if j = k then Value.int .u8 (Z k) else f j) k' = .int .u8 (Z k') := by
  intro k' h
  dsimp only
  by_cases e : k' = k
  · subst e; rw [if_pos rfl]
  · rw [if_neg e]; exact hf k' (by omega)

set_option maxHeartbeats 400000 in
theorem clone_some (ad : Addr) (len cap : Nat) (Z : Nat → Int) (w : World) (hl : len ≤ 1048576) (hz : ∀ k, k < len → 0 ≤ Z k ∧ Z k ≤ 255)
    (h : len = 0 ∨ ∃ b o, ad = ⟨b, o, none⟩ ∧ b < w.heap.size ∧ ∀ k, k < len → w.cell? ⟨b, o + k, none⟩ = some (.int .u8 (Z k))) :
    Calls Try.prog 9 #[.slice (some ad) len cap] w fun e w' => e = .returned (.slice (some ⟨w.heap.size, 0, none⟩) len len) ∧ Bytes w' w.heap.size 0 len Z ∧ Below w.heap.size w w' ∧ w.heap.size < w'.heap.size := by
  have hq := fun w => Lib.run_eql_slice_nil (P := Try.prog) w 22 5 (some ad) len cap 0 0 Try.underlying22
  have hmk := run_make_row' (P := Try.prog) 22 5 (.int .u8 0) 1 Try.underlying22 Try.info5 rfl .i64 .i64 len (by omega) (by omega)
  have H := hidden h
  clear h
  go_enter Try.func9, Try.ntmps9
  go_wp2
  go_loopw [4] (fun i wr => ∃ (k : Nat) (f : Nat → Value), k ≤ len ∧ i = .int .i64 k ∧ wr.rowIs w.heap.size 5 len f ∧ (∀ k', k' < k → f k' = .int .u8 (Z k')) ∧ Below w.heap.size w wr) (fun i _ => len - (intOf i).toNat)
  case atStart => exact ⟨0, _, Nat.zero_le _, rfl, World.rowIs_made w _ _ _, fun k' h => absurd h (Nat.not_lt_zero _), (Below.refl _ _).alloc (Nat.le_refl _) _⟩
  case round =>
    obtain ⟨k, f, hk, rfl, hrow, hf, hbel⟩ := hrel
    by_cases hlt : k < len
    · rcases H.out with h0 | ⟨b, o, rfl, hb, hc⟩
      · omega
      · have c : wr.cell? ⟨b, o + k, none⟩ = some (.int .u8 (Z k)) := by rw [hbel.cell (p := ⟨b, o + k, none⟩) hb]; exact hc k hlt
        have d := hrow.cell (i := k) hlt
        have e := hrow.frozen k
        have n1 : ¬ (w.heap.size = b) := by omega
        have n2 : ¬ (b = w.heap.size) := by omega
        clear H hc
        go_wp2
        go_roundw
        case rel => exact ⟨k + 1, _, by omega, by go_num, hrow.set k _, set_read hf, hbel.setCell (Nat.le_refl _) _⟩
        case measure => simp [intOf]; omega
    · have e : k = len := by omega
      subst e
      go_wp2
      go_ret
      exact ⟨rfl, row_bytes hrow hf hz, hbel, hrow.lt⟩

end Go.Proofs.Qxb6604269a
