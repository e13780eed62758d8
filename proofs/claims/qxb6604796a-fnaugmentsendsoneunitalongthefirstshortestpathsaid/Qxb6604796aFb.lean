/-
  WALKS for the two Augment laws: the bytes' bounds, zzFlowBytes, zzCloneInt8.
-/
import Derived.Test.Qxb6604796aB2
namespace Go.Proofs.Qxb6604796a
open Go.RowKit
set_option linter.unusedVariables false

/-- A slice of int8. -/
def I8 (w : World) (lo hi : Nat) (a : Option Addr) (l : Nat) (Z : Nat → Int) : Prop :=
  l = 0 ∨ ∃ b o, a = some ⟨b, o, none⟩ ∧ lo ≤ b ∧ b < hi ∧ ∀ i, i < l → w.cell? ⟨b, o + i, none⟩ = some (.int .i8 (Z i))

theorem I8.same {w w' : World} {lo hi : Nat} {a : Option Addr} {l : Nat} {Z : Nat → Int} (h : I8 w lo hi a l Z) (hb : ∀ b, lo ≤ b → b < hi → w'.heap[b]? = w.heap[b]?) : I8 w' lo hi a l Z := by
  rcases h with h | ⟨b, o, h1, h2, h3, h4⟩
  · exact .inl h
  · exact .inr ⟨b, o, h1, h2, h3, fun i hi => by rw [World.cell?_of_block (w := w) (a := ⟨b, o + i, none⟩) (hb b h2 h3)]; exact h4 i hi⟩

theorem I8.below {w w' : World} {lo hi M : Nat} {a : Option Addr} {l : Nat} {Z : Nat → Int} (h : I8 w lo hi a l Z) (hb : Below M w w') (hM : hi ≤ M) : I8 w' lo hi a l Z :=
  h.same fun b _ h2 => hb.block b (by omega)

theorem I8.wide {w : World} {lo hi lo' hi' : Nat} {a : Option Addr} {l : Nat} {Z : Nat → Int} (h : I8 w lo hi a l Z) (h1 : lo' ≤ lo) (h2 : hi ≤ hi') : I8 w lo' hi' a l Z := by
  rcases h with h | ⟨b, o, g1, g2, g3, g4⟩
  · exact .inl h
  · exact .inr ⟨b, o, g1, by omega, by omega, g4⟩

set_option maxHeartbeats 1000000 in
theorem bytes23 (at' ai al as' : Option Addr) (M ct n ci l1 c1 ls cs : Nat) (x : Int) (lo hi : Nat) (A : Nat → Option Addr) (L C : Nat → Nat) (Z : Nat → Nat → Int) (w : World)
    (h0 : M ≤ maxLen) (hn : n ≤ maxLen) (h1 : l1 ≤ maxLen) (h2 : ls ≤ maxLen) (hr : IRows w lo hi ai n A L C Z) :
    Calls Try.prog 23 #[.slice at' M ct, .slice ai n ci, .slice al l1 c1, .slice as' ls cs, .int .i64 x] w fun e w' => RetBool e ∧ w' = w := by
  have HR := hidden hr
  clear hr
  unfold maxLen at h0 hn h1 h2
  by_cases hbig : 1048576 < M ∨ 1048576 < n ∨ 1048576 < M + n
  · have three : 1048576 < M ∨ (M ≤ 1048576 ∧ 1048576 < n) ∨ (M ≤ 1048576 ∧ n ≤ 1048576 ∧ 1048576 < M + n) := by omega
    clear hbig
    rcases three with g | ⟨g, g'⟩ | ⟨g, g', g''⟩
    all_goals
      go_enter Try.func23, Try.ntmps23
      go_wp2
      go_ret
      exact ⟨⟨_, rfl⟩, rfl⟩
  have k1 : M ≤ 1048576 := by omega
  have k2 : n ≤ 1048576 := by omega
  have k3 : M + n ≤ 1048576 := by omega
  clear hbig
  go_enter Try.func23, Try.ntmps23
  go_wp2
  go_loop [11, 12] (fun z i => ∃ (k : Nat) (q : Int), k ≤ n ∧ 0 ≤ q ∧ q ≤ 1048576 ∧ z = .int .i64 q ∧ i = .int .i64 k) (fun _ i => n - (intOf i).toNat)
  case atStart => exact ⟨0, _, by omega, by omega, by omega, rfl, rfl⟩
  case round =>
    obtain ⟨k, q, hk, hq0, hq1, rfl, rfl⟩ := hrel
    by_cases hlt : k < n
    · rcases HR.out with h0 | ⟨b, o, rfl, _, _, hc⟩
      · omega
      · obtain ⟨d1, d2, d3, _⟩ := hc k hlt
        unfold maxLen at d3
        have d4 : (L k : Int) ≤ 9223372036854775807 := by omega
        clear hc HR d2 d3
        go_wp2
        · go_ret
          exact ⟨⟨_, rfl⟩, rfl⟩
        · go_ret
          exact ⟨⟨_, rfl⟩, rfl⟩
        · go_round
          case rel => exact ⟨k + 1, _, by omega, by omega, by omega, rfl, by go_num⟩
          case measure => simp [intOf]; omega
    · clear HR
      go_wp2
      all_goals
        go_ret
        exact ⟨⟨_, rfl⟩, rfl⟩

set_option maxHeartbeats 1000000 in
theorem bytes13 (at' ai al as' : Option Addr) (M ct n ci l1 c1 ls cs : Nat) (x : Int) (lo hi : Nat) (A : Nat → Option Addr) (L C : Nat → Nat) (Z : Nat → Nat → Int) (w : World)
    (h0 : M ≤ maxLen) (hn : n ≤ maxLen) (h1 : l1 ≤ maxLen) (h2 : ls ≤ maxLen) (hr : IRows w lo hi ai n A L C Z) :
    Calls Try.prog 13 #[.slice at' M ct, .slice ai n ci, .slice al l1 c1, .slice as' ls cs, .int .i64 x] w fun e w' => RetBool e ∧ w' = w := by
  have HR := hidden hr
  clear hr
  unfold maxLen at h0 hn h1 h2
  by_cases hbig : 1048576 < M ∨ 1048576 < n ∨ 1048576 < M + n
  · have three : 1048576 < M ∨ (M ≤ 1048576 ∧ 1048576 < n) ∨ (M ≤ 1048576 ∧ n ≤ 1048576 ∧ 1048576 < M + n) := by omega
    clear hbig
    rcases three with g | ⟨g, g'⟩ | ⟨g, g', g''⟩
    all_goals
      go_enter Try.func13, Try.ntmps13
      go_wp2
      go_ret
      exact ⟨⟨_, rfl⟩, rfl⟩
  have k1 : M ≤ 1048576 := by omega
  have k2 : n ≤ 1048576 := by omega
  have k3 : M + n ≤ 1048576 := by omega
  clear hbig
  go_enter Try.func13, Try.ntmps13
  go_wp2
  go_loop [11, 12] (fun z i => ∃ (k : Nat) (q : Int), k ≤ n ∧ 0 ≤ q ∧ q ≤ 1048576 ∧ z = .int .i64 q ∧ i = .int .i64 k) (fun _ i => n - (intOf i).toNat)
  case atStart => exact ⟨0, _, by omega, by omega, by omega, rfl, rfl⟩
  case round =>
    obtain ⟨k, q, hk, hq0, hq1, rfl, rfl⟩ := hrel
    by_cases hlt : k < n
    · rcases HR.out with h0 | ⟨b, o, rfl, _, _, hc⟩
      · omega
      · obtain ⟨d1, d2, d3, _⟩ := hc k hlt
        unfold maxLen at d3
        have d4 : (L k : Int) ≤ 9223372036854775807 := by omega
        clear hc HR d2 d3
        go_wp2
        · go_ret
          exact ⟨⟨_, rfl⟩, rfl⟩
        · go_ret
          exact ⟨⟨_, rfl⟩, rfl⟩
        · go_round
          case rel => exact ⟨k + 1, _, by omega, by omega, by omega, rfl, by go_num⟩
          case measure => simp [intOf]; omega
    · clear HR
      go_wp2
      all_goals
        go_ret
        exact ⟨⟨_, rfl⟩, rfl⟩

set_option maxHeartbeats 1000000 in
theorem flowBytes (at' ai al as' : Option Addr) (M ct n ci l1 c1 ls cs : Nat) (lo hi : Nat) (A : Nat → Option Addr) (L C : Nat → Nat) (Z : Nat → Nat → Int) (w : World)
    (h0 : M ≤ 4096) (hn : n ≤ 4096) (h1 : l1 ≤ 4096) (h2 : ls ≤ 4096) (hr : IRows w lo hi ai n A L C Z) :
    Calls Try.prog 14 #[.slice at' M ct, .slice ai n ci, .slice al l1 c1, .slice as' ls cs] w fun e w' => Sized n L e ∧ w' = w := by
  have HR := hidden hr
  clear hr
  go_enter Try.func14, Try.ntmps14
  go_wp2
  go_loop [9, 10] (fun z i => ∃ (k : Nat) (q : Int), k ≤ n ∧ 0 ≤ q ∧ q ≤ 2000000 ∧ (∀ v, v < k → L v ≤ 131072) ∧ z = .int .i64 q ∧ i = .int .i64 k) (fun _ i => n - (intOf i).toNat)
  case atStart => exact ⟨0, _, by omega, by omega, by omega, fun v h => absurd h (Nat.not_lt_zero _), rfl, rfl⟩
  case round =>
    obtain ⟨k, q, hk, hq0, hq1, hL, rfl, rfl⟩ := hrel
    by_cases hlt : k < n
    · rcases HR.out with h0 | ⟨b, o, rfl, _, _, hc⟩
      · omega
      · obtain ⟨d1, d2, d3, _⟩ := hc k hlt
        clear hc HR d2 d3
        have HL := hidden hL
        clear hL
        by_cases hbig : 131072 < L k
        · go_wp2
          go_ret
          exact ⟨⟨_, rfl, fun h => by omega⟩, rfl⟩
        · go_wp2
          · go_ret
            exact ⟨⟨_, rfl, fun h => by omega⟩, rfl⟩
          · go_round
            case rel => exact ⟨k + 1, _, by omega, by omega, by omega, fun v hv => by
              by_cases e : v = k
              · subst e; omega
              · exact HL.out v (by omega), rfl, by go_num⟩
            case measure => simp [intOf]; omega
    · have e : k = n := by omega
      subst e
      clear HR
      go_wp2
      go_ret
      exact ⟨⟨_, rfl, fun _ => hL⟩, rfl⟩

theorem Try.info39 : (Try.prog.info? 39).map (fun i => (i.zero, i.size, i.bytes)) = some (some (.int .i8 0), 1, 1) := by kernel_rfl

set_option maxHeartbeats 400000 in
theorem clone8_nil (cap : Nat) (w : World) : Calls Try.prog 18 #[.slice none 0 cap] w fun e w' => e = .returned (.slice none 0 0) ∧ w' = w := by
  have hq := fun w => Lib.run_eql_slice_nil (P := Try.prog) w 28 39 none 0 cap 0 0 Try.underlying28
  go_enter Try.func18, Try.ntmps18
  go_wp2
  go_ret
  exact ⟨rfl, rfl⟩

theorem set_read8 {Z : Nat → Int} {f : Nat → Value} {k : Nat} (hf : ∀ k', k' < k → f k' = .int .i8 (Z k')) : ∀ k', k' < k + 1 → (fun j => if j = k then Value.int .i8 (Z k) else f j) k' = .int .i8 (Z k') := by
  intro k' h
  dsimp only
  by_cases e : k' = k
  · subst e; rw [if_pos rfl]
  · rw [if_neg e]; exact hf k' (by omega)

set_option maxHeartbeats 400000 in
theorem clone8_some (ad : Addr) (len cap : Nat) (Z : Nat → Int) (lo hi : Nat) (w : World) (hl : len ≤ 1048576) (hhi : hi ≤ w.heap.size) (h : I8 w lo hi (some ad) len Z) :
    Calls Try.prog 18 #[.slice (some ad) len cap] w fun e w' => e = .returned (.slice (some ⟨w.heap.size, 0, none⟩) len len) ∧ w'.rowIs w.heap.size 39 len (fun i => .int .i8 (Z i)) ∧ Below w.heap.size w w' := by
  have hq := fun w => Lib.run_eql_slice_nil (P := Try.prog) w 28 39 (some ad) len cap 0 0 Try.underlying28
  have hmk := run_make_row' (P := Try.prog) 28 39 (.int .i8 0) 1 Try.underlying28 Try.info39 rfl .i64 .i64 len (by omega) (by omega)
  have H := hidden h
  clear h
  go_enter Try.func18, Try.ntmps18
  go_wp2
  go_loopw [4] (fun i wr => ∃ (k : Nat) (f : Nat → Value), k ≤ len ∧ i = .int .i64 k ∧ wr.rowIs w.heap.size 39 len f ∧ (∀ k', k' < k → f k' = .int .i8 (Z k')) ∧ Below w.heap.size w wr) (fun i _ => len - (intOf i).toNat)
  case atStart => exact ⟨0, _, Nat.zero_le _, rfl, World.rowIs_made w _ _ _, fun k' h => absurd h (Nat.not_lt_zero _), (Below.refl _ _).alloc (Nat.le_refl _) _⟩
  case round =>
    obtain ⟨k, f, hk, rfl, hrow, hf, hbel⟩ := hrel
    by_cases hlt : k < len
    · rcases H.out with h0 | ⟨b, o, hadr, _, hb, hc⟩
      · omega
      · obtain rfl : ad = ⟨b, o, none⟩ := by simpa using hadr
        clear hadr
        have c : wr.cell? ⟨b, o + k, none⟩ = some (.int .i8 (Z k)) := by rw [hbel.cell (p := ⟨b, o + k, none⟩) (show b < w.heap.size by omega)]; exact hc k hlt
        have d := hrow.cell (i := k) hlt
        have e := hrow.frozen k
        have n1 : ¬ (w.heap.size = b) := by omega
        have n2 : ¬ (b = w.heap.size) := by omega
        clear H hc
        go_wp2
        go_roundw
        case rel => exact ⟨k + 1, _, by omega, by go_num, hrow.set k _, set_read8 hf, hbel.setCell (Nat.le_refl _) _⟩
        case measure => simp [intOf]; omega
    · have e : k = len := by omega
      subst e
      go_wp2
      go_ret
      exact ⟨rfl, hrow.congr fun i hi => hf i hi, hbel⟩

end Go.Proofs.Qxb6604796a
