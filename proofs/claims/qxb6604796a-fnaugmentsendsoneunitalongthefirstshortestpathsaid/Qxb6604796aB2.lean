/-
  WALKS: zzMeetBytes, zzCloneInts, zzCloneRows.
-/
import Derived.Test.Qxb6604796aB1
namespace Go.Proofs.Qxb6604796a
open Go.RowKit

/-- What zzMeetBytes' answer tells of the rows. -/
def Sized (n : Nat) (L : Nat → Nat) (e : Ending) : Prop := ∃ r : Int, e = .returned (.int .i64 r) ∧ (r ≤ 1048576 → ∀ v, v < n → L v ≤ 131072)

set_option maxHeartbeats 1000000 in
theorem meetBytes (ai a1 a2 a3 : Option Addr) (n ci l1 c1 l2 c2 l3 c3 : Nat) (lo hi : Nat) (A : Nat → Option Addr) (L C : Nat → Nat) (Z : Nat → Nat → Int) (w : World)
    (hn : n ≤ 4096) (h1 : l1 ≤ 65536) (h2 : l2 ≤ 65536) (h3 : l3 ≤ 65536) (hr : IRows w lo hi ai n A L C Z) :
    Calls Try.prog 25 #[.slice ai n ci, .slice a1 l1 c1, .slice a2 l2 c2, .slice a3 l3 c3] w fun e w' => Sized n L e ∧ w' = w := by
  have HR := hidden hr
  clear hr
  go_enter Try.func25, Try.ntmps25
  go_wp2
  go_loop [9, 10] (fun z i => ∃ (k : Nat) (q : Int), k ≤ n ∧ 0 ≤ q ∧ q ≤ 2000000 ∧ (∀ v, v < k → L v ≤ 131072) ∧ z = .int .i64 q ∧ i = .int .i64 k) (fun _ i => n - (intOf i).toNat)
  case atStart => exact ⟨0, _, by omega, by omega, by omega, fun v h => absurd h (Nat.not_lt_zero _), rfl, rfl⟩
  case round =>
    obtain ⟨k, q, hk, hq0, hq1, hL, rfl, rfl⟩ := hrel
    by_cases hlt : k < n
    · rcases HR.out with h0 | ⟨b, o, rfl, _, _, hc⟩
      · omega
      · obtain ⟨d1, d2, d3, _⟩ := hc k hlt
        clear hc HR d2 d3
        have HL := hidden hL
        clear hL
        by_cases hbig : 131072 < L k
        · go_wp2
          go_ret
          exact ⟨⟨_, rfl, fun h => by omega⟩, rfl⟩
        · go_wp2
          · go_ret
            exact ⟨⟨_, rfl, fun h => by omega⟩, rfl⟩
          · go_round
            case rel => exact ⟨k + 1, _, by omega, by omega, by omega, fun v hv => by
              by_cases e : v = k
              · subst e; omega
              · exact HL.out v (by omega), rfl, by go_num⟩
            case measure => simp [intOf]; omega
    · have e : k = n := by omega
      subst e
      clear HR
      go_wp2
      go_ret
      exact ⟨⟨_, rfl, fun _ => hL⟩, rfl⟩

theorem Try.info3 : (Try.prog.info? 3).map (fun i => (i.zero, i.size, i.bytes)) = some (some (.int .i64 0), 1, 8) := by kernel_rfl
theorem Try.info26 : (Try.prog.info? 26).map (fun i => (i.zero, i.size, i.bytes)) = some (some (.slice none 0 0), 1, 24) := by kernel_rfl
theorem Try.info5 : (Try.prog.info? 5).map (fun i => (i.zero, i.size, i.bytes)) = some (some (.int .u8 0), 1, 1) := by kernel_rfl

set_option maxHeartbeats 400000 in
theorem clone_nil (cap : Nat) (w : World) : Calls Try.prog 16 #[.slice none 0 cap] w fun e w' => e = .returned (.slice none 0 0) ∧ w' = w := by
  have hq := fun w => Lib.run_eql_slice_nil (P := Try.prog) w 26 3 none 0 cap 0 0 Try.underlying26
  go_enter Try.func16, Try.ntmps16
  go_wp2
  go_ret
  exact ⟨rfl, rfl⟩

theorem row_ints {w : World} {N len : Nat} {Z : Nat → Int} {f : Nat → Value} (h : w.rowIs N 3 len f) (hf : ∀ k, k < len → f k = .int .i64 (Z k)) : IRow w N (N + 1) (some ⟨N, 0, none⟩) len Z :=
  .inr ⟨N, 0, rfl, Nat.le_refl _, by omega, fun k hk => by rw [Nat.zero_add, h.cell hk, hf k hk]⟩

theorem set_read {Z : Nat → Int} {f : Nat → Value} {k : Nat} (hf : ∀ k', k' < k → f k' = .int .i64 (Z k')) : ∀ k', k' < k + 1 → (fun j => if j = k then Value.int .i64 (Z k) else f j) k' = .int .i64 (Z k') := by
  intro k' h
  dsimp only
  by_cases e : k' = k
  · subst e; rw [if_pos rfl]
  · rw [if_neg e]; exact hf k' (by omega)

set_option maxHeartbeats 400000 in
theorem clone_some (ad : Addr) (len cap : Nat) (Z : Nat → Int) (lo hi : Nat) (w : World) (hl : len ≤ 1048576) (hhi : hi ≤ w.heap.size) (h : IRow w lo hi (some ad) len Z) :
    Calls Try.prog 16 #[.slice (some ad) len cap] w fun e w' => e = .returned (.slice (some ⟨w.heap.size, 0, none⟩) len len) ∧ IRow w' w.heap.size (w.heap.size + 1) (some ⟨w.heap.size, 0, none⟩) len Z ∧ Below w.heap.size w w' ∧ w.heap.size < w'.heap.size := by
  have hq := fun w => Lib.run_eql_slice_nil (P := Try.prog) w 26 3 (some ad) len cap 0 0 Try.underlying26
  have hmk := run_make_row' (P := Try.prog) 26 3 (.int .i64 0) 8 Try.underlying26 Try.info3 rfl .i64 .i64 len (by omega) (by omega)
  have H := hidden h
  clear h
  go_enter Try.func16, Try.ntmps16
  go_wp2
  go_loopw [4] (fun i wr => ∃ (k : Nat) (f : Nat → Value), k ≤ len ∧ i = .int .i64 k ∧ wr.rowIs w.heap.size 3 len f ∧ (∀ k', k' < k → f k' = .int .i64 (Z k')) ∧ Below w.heap.size w wr) (fun i _ => len - (intOf i).toNat)
  case atStart => exact ⟨0, _, Nat.zero_le _, rfl, World.rowIs_made w _ _ _, fun k' h => absurd h (Nat.not_lt_zero _), (Below.refl _ _).alloc (Nat.le_refl _) _⟩
  case round =>
    obtain ⟨k, f, hk, rfl, hrow, hf, hbel⟩ := hrel
    by_cases hlt : k < len
    · rcases H.out with h0 | ⟨b, o, hadr, _, hb, hc⟩
      · omega
      · obtain rfl : ad = ⟨b, o, none⟩ := by simpa using hadr
        clear hadr
        have c : wr.cell? ⟨b, o + k, none⟩ = some (.int .i64 (Z k)) := by rw [hbel.cell (p := ⟨b, o + k, none⟩) (show b < w.heap.size by omega)]; exact hc k hlt
        have d := hrow.cell (i := k) hlt
        have e := hrow.frozen k
        have n1 : ¬ (w.heap.size = b) := by omega
        have n2 : ¬ (b = w.heap.size) := by omega
        clear H hc
        go_wp2
        go_roundw
        case rel => exact ⟨k + 1, _, by omega, by go_num, hrow.set k _, set_read hf, hbel.setCell (Nat.le_refl _) _⟩
        case measure => simp [intOf]; omega
    · have e : k = len := by omega
      subst e
      go_wp2
      go_ret
      exact ⟨rfl, row_ints hrow hf, hbel, hrow.lt⟩

/-- A clone of a row, whatever the row: nil stays nil. -/
theorem clone_any (a : Option Addr) (len cap : Nat) (Z : Nat → Int) (lo hi : Nat) (w : World) (hl : len ≤ 1048576) (hhi : hi ≤ w.heap.size) (h : IRow w lo hi a len Z) :
    Calls Try.prog 16 #[.slice a len cap] w fun e w' => ∃ a', e = .returned (.slice a' len len) ∧ IRow w' w.heap.size w'.heap.size a' len Z ∧ Below w.heap.size w w' := by
  cases a with
  | none =>
    obtain rfl : len = 0 := by
      rcases h with h | ⟨_, _, h, _⟩
      · exact h
      · cases h
    refine (clone_nil cap w).mono ?_
    rintro e w' ⟨rfl, rfl⟩
    exact ⟨none, rfl, .inl rfl, Below.refl _ _⟩
  | some ad =>
    refine (clone_some ad len cap Z lo hi w hl hhi h).mono ?_
    rintro e w' ⟨rfl, h1, h2, h3⟩
    exact ⟨_, rfl, h1.wide (Nat.le_refl _) h3, h2⟩

set_option maxHeartbeats 400000 in
theorem rows_nil (cap : Nat) (w : World) : Calls Try.prog 17 #[.slice none 0 cap] w fun e w' => e = .returned (.slice none 0 0) ∧ w' = w := by
  have hq := fun w => Lib.run_eql_slice_nil (P := Try.prog) w 27 26 none 0 cap 0 0 Try.underlying27
  go_enter Try.func17, Try.ntmps17
  go_wp2
  go_ret
  exact ⟨rfl, rfl⟩

/-- The first k rows have been cloned. -/
def Cloned (w : World) (n : Nat) (L : Nat → Nat) (Z : Nat → Nat → Int) (k : Nat) (wr : World) : Prop :=
  Below w.heap.size w wr ∧ ∃ (A : Nat → Option Addr) (f : Nat → Value), wr.rowIs w.heap.size 26 n f ∧ ∀ v, v < k → f v = .slice (A v) (L v) (L v) ∧ IRow wr (w.heap.size + 1) wr.heap.size (A v) (L v) (Z v)

theorem Cloned.start (w : World) (n : Nat) (L : Nat → Nat) (Z : Nat → Nat → Int) : Cloned w n L Z 0 (w.alloc (.cells (madeCells #[.slice none 0 0] n) 26)) :=
  ⟨(Below.refl _ _).alloc (Nat.le_refl _) _, fun _ => none, _, World.rowIs_made w _ _ _, fun _ h => absurd h (Nat.not_lt_zero _)⟩

theorem Cloned.step {w : World} {n : Nat} {L : Nat → Nat} {Z : Nat → Nat → Int} {k : Nat} {wr w1 : World} {a' : Option Addr} (h : Cloned w n L Z k wr) (hb : Below wr.heap.size wr w1) (hr : IRow w1 wr.heap.size w1.heap.size a' (L k) (Z k)) :
    Cloned w n L Z (k + 1) (w1.setCell ⟨w.heap.size, k, none⟩ (.slice a' (L k) (L k))) := by
  obtain ⟨h1, A, f, h2, h3⟩ := h
  have hlt := h2.lt
  have hsz : (w1.setCell ⟨w.heap.size, k, none⟩ (.slice a' (L k) (L k))).heap.size = w1.heap.size := by simp [World.setCell]
  refine ⟨(h1.trans (hb.mono (by omega))).setCell (Nat.le_refl _) _, fun v => if v = k then a' else A v, _, (h2.of_block (hb.block _ hlt)).set k _, ?_⟩
  intro v hv
  have hsame : ∀ b, w.heap.size + 1 ≤ b → (w1.setCell ⟨w.heap.size, k, none⟩ (.slice a' (L k) (L k))).heap[b]? = w1.heap[b]? := fun b h => Below.heap_setCell _ _ _ _ (by show b ≠ w.heap.size; omega)
  rw [hsz]
  by_cases e : v = k
  · subst e
    simp only [if_true]
    exact ⟨trivial, (hr.wide (by omega) (Nat.le_refl _)).same fun b h _ => hsame b h⟩
  · simp only [e, if_false]
    obtain ⟨g1, g2⟩ := h3 v (by omega)
    exact ⟨g1, ((g2.below hb (Nat.le_refl _)).wide (Nat.le_refl _) hb.size).same fun b h _ => hsame b h⟩

theorem Cloned.done {w : World} {n : Nat} {L : Nat → Nat} {Z : Nat → Nat → Int} {wr : World} (h : Cloned w n L Z n wr) (hL : ∀ v, v < n → L v ≤ 1048576) :
    ∃ A, IRows wr w.heap.size wr.heap.size (some ⟨w.heap.size, 0, none⟩) n A L L Z := by
  obtain ⟨h1, A, f, h2, h3⟩ := h
  refine ⟨A, .inr ⟨w.heap.size, 0, rfl, Nat.le_refl _, h2.lt, fun v hv => ?_⟩⟩
  obtain ⟨g1, g2⟩ := h3 v hv
  exact ⟨by rw [Nat.zero_add, h2.cell hv, g1], Nat.le_refl _, by have := hL v hv; unfold maxLen; omega, g2.wide (by omega) (Nat.le_refl _)⟩

set_option maxHeartbeats 400000 in
theorem rows_some (ad : Addr) (n cap : Nat) (A : Nat → Option Addr) (L C : Nat → Nat) (Z : Nat → Nat → Int) (lo hi : Nat) (w : World) (hn : n ≤ 4096) (hL : ∀ v, v < n → L v ≤ 131072) (hhi : hi ≤ w.heap.size) (h : IRows w lo hi (some ad) n A L C Z) :
    Calls Try.prog 17 #[.slice (some ad) n cap] w fun e w' => e = .returned (.slice (some ⟨w.heap.size, 0, none⟩) n n) ∧ Below w.heap.size w w' ∧ ∃ A', IRows w' w.heap.size w'.heap.size (some ⟨w.heap.size, 0, none⟩) n A' L L Z := by
  have hq := fun w => Lib.run_eql_slice_nil (P := Try.prog) w 27 26 (some ad) n cap 0 0 Try.underlying27
  have hmk := run_make_row' (P := Try.prog) 27 26 (.slice none 0 0) 24 Try.underlying27 Try.info26 rfl .i64 .i64 n (by omega) (by omega)
  have H := hidden h
  have HL := hidden hL
  clear h hL
  go_enter Try.func17, Try.ntmps17
  go_wp2
  go_loopw [4] (fun i wr => ∃ (k : Nat), k ≤ n ∧ i = .int .i64 k ∧ Cloned w n L Z k wr) (fun i _ => n - (intOf i).toNat)
  case atStart => exact ⟨0, Nat.zero_le _, rfl, Cloned.start w n L Z⟩
  case round =>
    obtain ⟨k, hk, rfl, hcl⟩ := hrel
    by_cases hlt : k < n
    · rcases H.out with h0 | ⟨b, o, hadr, _, hb, hc⟩
      · omega
      · obtain rfl : ad = ⟨b, o, none⟩ := by simpa using hadr
        clear hadr
        obtain ⟨d1, d2, d3, d4⟩ := hc k hlt
        have hbel := hcl.1
        have hrow : ∃ f, wr.rowIs w.heap.size 26 n f := by obtain ⟨_, _, f, hf, _⟩ := hcl; exact ⟨f, hf⟩
        obtain ⟨f, hrow⟩ := hrow
        have c : wr.cell? ⟨b, o + k, none⟩ = some (.slice (A k) (L k) (C k)) := by rw [hbel.cell (p := ⟨b, o + k, none⟩) (show b < w.heap.size by omega)]; exact d1
        have HC := hidden (clone_any (A k) (L k) (C k) (Z k) lo hi wr (by have := HL.out k hlt; omega) (by have := hbel.size; omega) (d4.below hbel hhi))
        have hcell := hidden hrow
        have HCL := hidden hcl
        clear H hc d1 d2 d3 d4 hcl hbel
        go_wp2_with fail
        refine HC.out.mono ?_
        rintro e w1 ⟨a', rfl, hr', hb'⟩
        have r1 := hcell.out.of_block (hb'.block _ hcell.out.lt)
        have x1 := r1.cell hlt
        have x2 := r1.frozen k
        have CL := hidden (HCL.out.step hb' hr')
        clear hr' hb' HC
        go_wp2
        go_roundw
        case rel => exact ⟨k + 1, by omega, by go_num, CL.out⟩
        case measure => simp [intOf]; omega
    · have e : k = n := by omega
      subst e
      go_wp2
      go_ret
      exact ⟨rfl, hcl.1, hcl.done (fun v hv => by have := HL.out v hv; omega)⟩

theorem rows_any (a : Option Addr) (n cap : Nat) (A : Nat → Option Addr) (L C : Nat → Nat) (Z : Nat → Nat → Int) (lo hi : Nat) (w : World) (hn : n ≤ 4096) (hL : ∀ v, v < n → L v ≤ 131072) (hhi : hi ≤ w.heap.size) (h : IRows w lo hi a n A L C Z) :
    Calls Try.prog 17 #[.slice a n cap] w fun e w' => ∃ a' A', e = .returned (.slice a' n n) ∧ Below w.heap.size w w' ∧ IRows w' w.heap.size w'.heap.size a' n A' L L Z := by
  cases a with
  | none =>
    obtain rfl : n = 0 := by
      rcases h with h | ⟨_, _, h, _⟩
      · exact h
      · cases h
    refine (rows_nil cap w).mono ?_
    rintro e w' ⟨rfl, rfl⟩
    exact ⟨none, A, rfl, Below.refl _ _, .inl rfl⟩
  | some ad =>
    refine (rows_some ad n cap A L C Z lo hi w hn hL hhi h).mono ?_
    rintro e w' ⟨rfl, h1, A', h2⟩
    exact ⟨_, A', rfl, h1, h2⟩

end Go.Proofs.Qxb6604796a
