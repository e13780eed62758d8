/-
  THE DATA THAT CAME IN: rows of ints, rows of rows. WALKS: the bytes' bounds.
-/
import Derived.Test.Qxb6604796aRows
import Derived.WalkKit
import Derived.WalkSpells
import Derived.WalkLawsBesides
import Derived.Deep.OwnRows
namespace Go.Proofs.Qxb6604796a
open Go.RowKit

theorem hidden {p : Prop} (h : p) : Hid p := h

/-- It returned some bool. -/
def RetBool (e : Ending) : Prop := ∃ r, e = .returned (.bool r)

/-- A slice of ints whose array lies in a block from 'lo' on, below 'hi': its elements are 'Z'. -/
def IRow (w : World) (lo hi : Nat) (a : Option Addr) (l : Nat) (Z : Nat → Int) : Prop :=
  l = 0 ∨ ∃ b o, a = some ⟨b, o, none⟩ ∧ lo ≤ b ∧ b < hi ∧ ∀ i, i < l → w.cell? ⟨b, o + i, none⟩ = some (.int .i64 (Z i))

/-- A slice of such slices. -/
def IRows (w : World) (lo hi : Nat) (a : Option Addr) (l : Nat) (A : Nat → Option Addr) (L C : Nat → Nat) (Z : Nat → Nat → Int) : Prop :=
  l = 0 ∨ ∃ b o, a = some ⟨b, o, none⟩ ∧ lo ≤ b ∧ b < hi ∧ ∀ v, v < l → w.cell? ⟨b, o + v, none⟩ = some (.slice (A v) (L v) (C v)) ∧ L v ≤ C v ∧ C v ≤ maxLen ∧ IRow w lo hi (A v) (L v) (Z v)

/-- What holds of the blocks from lo on, below hi, holds where those blocks are the same. -/
theorem IRow.same {w w' : World} {lo hi : Nat} {a : Option Addr} {l : Nat} {Z : Nat → Int} (h : IRow w lo hi a l Z) (hb : ∀ b, lo ≤ b → b < hi → w'.heap[b]? = w.heap[b]?) : IRow w' lo hi a l Z := by
  rcases h with h | ⟨b, o, h1, h2, h3, h4⟩
  · exact .inl h
  · exact .inr ⟨b, o, h1, h2, h3, fun i hi => by rw [World.cell?_of_block (w := w) (a := ⟨b, o + i, none⟩) (hb b h2 h3)]; exact h4 i hi⟩

theorem IRow.wide {w : World} {lo hi lo' hi' : Nat} {a : Option Addr} {l : Nat} {Z : Nat → Int} (h : IRow w lo hi a l Z) (h1 : lo' ≤ lo) (h2 : hi ≤ hi') : IRow w lo' hi' a l Z := by
  rcases h with h | ⟨b, o, g1, g2, g3, g4⟩
  · exact .inl h
  · exact .inr ⟨b, o, g1, by omega, by omega, g4⟩

theorem IRow.below {w w' : World} {lo hi M : Nat} {a : Option Addr} {l : Nat} {Z : Nat → Int} (h : IRow w lo hi a l Z) (hb : Below M w w') (hM : hi ≤ M) : IRow w' lo hi a l Z :=
  h.same fun b _ h2 => hb.block b (by omega)

theorem IRows.same {w w' : World} {lo hi : Nat} {a : Option Addr} {l : Nat} {A : Nat → Option Addr} {L C : Nat → Nat} {Z : Nat → Nat → Int} (h : IRows w lo hi a l A L C Z) (hb : ∀ b, lo ≤ b → b < hi → w'.heap[b]? = w.heap[b]?) : IRows w' lo hi a l A L C Z := by
  rcases h with h | ⟨b, o, h1, h2, h3, h4⟩
  · exact .inl h
  · refine .inr ⟨b, o, h1, h2, h3, fun v hv => ?_⟩
    obtain ⟨c1, c2, c3, c4⟩ := h4 v hv
    exact ⟨by rw [World.cell?_of_block (w := w) (a := ⟨b, o + v, none⟩) (hb b h2 h3)]; exact c1, c2, c3, c4.same hb⟩

theorem IRows.wide {w : World} {lo hi lo' hi' : Nat} {a : Option Addr} {l : Nat} {A : Nat → Option Addr} {L C : Nat → Nat} {Z : Nat → Nat → Int} (h : IRows w lo hi a l A L C Z) (h1 : lo' ≤ lo) (h2 : hi ≤ hi') : IRows w lo' hi' a l A L C Z := by
  rcases h with h | ⟨b, o, g1, g2, g3, g4⟩
  · exact .inl h
  · refine .inr ⟨b, o, g1, by omega, by omega, fun v hv => ?_⟩
    obtain ⟨c1, c2, c3, c4⟩ := g4 v hv
    exact ⟨c1, c2, c3, c4.wide h1 h2⟩

theorem IRows.below {w w' : World} {lo hi M : Nat} {a : Option Addr} {l : Nat} {A : Nat → Option Addr} {L C : Nat → Nat} {Z : Nat → Nat → Int} (h : IRows w lo hi a l A L C Z) (hb : Below M w w') (hM : hi ≤ M) : IRows w' lo hi a l A L C Z :=
  h.same fun b _ h2 => hb.block b (by omega)

set_option maxHeartbeats 1000000 in
theorem bytes30 (ai a1 a2 a3 : Option Addr) (n ci l1 c1 l2 c2 l3 c3 : Nat) (x : Int) (lo hi : Nat) (A : Nat → Option Addr) (L C : Nat → Nat) (Z : Nat → Nat → Int) (w : World)
    (hn : n ≤ maxLen) (h1 : l1 ≤ maxLen) (h2 : l2 ≤ maxLen) (h3 : l3 ≤ maxLen) (hr : IRows w lo hi ai n A L C Z) :
    Calls Try.prog 30 #[.slice ai n ci, .slice a1 l1 c1, .slice a2 l2 c2, .slice a3 l3 c3, .int .i64 x] w fun e w' => RetBool e ∧ w' = w := by
  have HR := hidden hr
  clear hr
  unfold maxLen at hn h1 h2 h3
  by_cases hbig : 1048576 < n
  · go_enter Try.func30, Try.ntmps30
    go_wp2
    go_ret
    exact ⟨⟨_, rfl⟩, rfl⟩
  go_enter Try.func30, Try.ntmps30
  go_wp2
  go_loop [11, 12] (fun z i => ∃ (k : Nat) (q : Int), k ≤ n ∧ 0 ≤ q ∧ q ≤ 1048576 ∧ z = .int .i64 q ∧ i = .int .i64 k) (fun _ i => n - (intOf i).toNat)
  case atStart => exact ⟨0, n, by omega, by omega, by omega, rfl, rfl⟩
  case round =>
    obtain ⟨k, q, hk, hq0, hq1, rfl, rfl⟩ := hrel
    by_cases hlt : k < n
    · rcases HR.out with h0 | ⟨b, o, rfl, _, _, hc⟩
      · omega
      · obtain ⟨d1, d2, d3, _⟩ := hc k hlt
        unfold maxLen at d3
        have d4 : (L k : Int) ≤ 9223372036854775807 := by omega
        clear hc HR d2 d3
        go_wp2
        · go_ret
          exact ⟨⟨_, rfl⟩, rfl⟩
        · go_ret
          exact ⟨⟨_, rfl⟩, rfl⟩
        · go_round
          case rel => exact ⟨k + 1, _, by omega, by omega, by omega, rfl, by go_num⟩
          case measure => simp [intOf]; omega
    · clear HR
      go_wp2
      all_goals
        go_ret
        exact ⟨⟨_, rfl⟩, rfl⟩

set_option maxHeartbeats 1000000 in
theorem bytes24 (ai a1 a2 a3 : Option Addr) (n ci l1 c1 l2 c2 l3 c3 : Nat) (lo hi : Nat) (A : Nat → Option Addr) (L C : Nat → Nat) (Z : Nat → Nat → Int) (w : World)
    (hn : n ≤ maxLen) (h1 : l1 ≤ maxLen) (h2 : l2 ≤ maxLen) (h3 : l3 ≤ maxLen) (hr : IRows w lo hi ai n A L C Z) :
    Calls Try.prog 24 #[.slice ai n ci, .slice a1 l1 c1, .slice a2 l2 c2, .slice a3 l3 c3] w fun e w' => RetBool e ∧ w' = w := by
  have HR := hidden hr
  clear hr
  unfold maxLen at hn h1 h2 h3
  by_cases hbig : 1048576 < n
  · go_enter Try.func24, Try.ntmps24
    go_wp2
    go_ret
    exact ⟨⟨_, rfl⟩, rfl⟩
  go_enter Try.func24, Try.ntmps24
  go_wp2
  go_loop [9, 10] (fun z i => ∃ (k : Nat) (q : Int), k ≤ n ∧ 0 ≤ q ∧ q ≤ 1048576 ∧ z = .int .i64 q ∧ i = .int .i64 k) (fun _ i => n - (intOf i).toNat)
  case atStart => exact ⟨0, n, by omega, by omega, by omega, rfl, rfl⟩
  case round =>
    obtain ⟨k, q, hk, hq0, hq1, rfl, rfl⟩ := hrel
    by_cases hlt : k < n
    · rcases HR.out with h0 | ⟨b, o, rfl, _, _, hc⟩
      · omega
      · obtain ⟨d1, d2, d3, _⟩ := hc k hlt
        unfold maxLen at d3
        have d4 : (L k : Int) ≤ 9223372036854775807 := by omega
        clear hc HR d2 d3
        go_wp2
        · go_ret
          exact ⟨⟨_, rfl⟩, rfl⟩
        · go_ret
          exact ⟨⟨_, rfl⟩, rfl⟩
        · go_round
          case rel => exact ⟨k + 1, _, by omega, by omega, by omega, rfl, by go_num⟩
          case measure => simp [intOf]; omega
    · clear HR
      go_wp2
      all_goals
        go_ret
        exact ⟨⟨_, rfl⟩, rfl⟩


end Go.Proofs.Qxb6604796a
