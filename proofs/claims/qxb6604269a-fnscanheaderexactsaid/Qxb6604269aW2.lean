/-
  WALKS: scanHeader, ZZScanHeader.
-/
import Derived.Test.Qxb6604269aW1
namespace Go.Proofs.Qxb6604269a
open Go.RowKit Pl

/-- What scanHeader answers. -/
def Scanned (Z : Nat → Int) (len s : Nat) (e : Ending) : Prop :=
  ∃ k, Stop Z len s k ∧ ((1 ≤ k ∧ Pl.Form Z len s k ∧ e = .returned (.tuple #[.int .i64 (hv Z s k), .int .i64 (s + k + 2), .bool true])) ∨
    (¬ (1 ≤ k ∧ Pl.Form Z len s k) ∧ e = .returned (.tuple #[.int .i64 0, .int .i64 0, .bool false])))

theorem wrap_not {z : Int} (h0 : 0 ≤ z) (h1 : z ≤ 255) (h : ¬ isDig z) : 9 < IntKind.u8.wrap (z - 48) := by
  unfold isDig at h
  simp [IntKind.wrap, IntKind.bits, IntKind.signed]; omega

set_option maxRecDepth 20000 in
set_option maxHeartbeats 1000000 in
theorem scan_any (b o len cap p : Nat) (Z : Nat → Int) (w : World) (hB : Bytes w b o len Z) (hl : len ≤ 1048576) (hp : p ≤ len) :
    Calls Try.prog 19 #[.slice (some ⟨b, o, none⟩) len cap, .int .i64 p] w fun e w' => Scanned Z len (p + 1) e ∧ w' = w := by
  by_cases hL : (len : Int) ≤ p + 1 + 9
  all_goals
    go_enter Try.func19, Try.ntmps19
    go_wp2
    go_loop [7, 8] (fun n i => ∃ k : Nat, k ≤ 9 ∧ (k = 0 ∨ p + 1 + k ≤ len) ∧ Digs Z (p + 1) k ∧ n = .int .i64 (hv Z (p + 1) k) ∧ i = .int .i64 (p + 1 + k)) (fun _ i => p + 10 - (intOf i).toNat)
    case atStart => exact ⟨0, by omega, .inl rfl, fun j hj => absurd hj (Nat.not_lt_zero _), rfl, by go_num⟩
    case round =>
      obtain ⟨k, hk9, hkl, hd, rfl, rfl⟩ := hrel
      have hb := hv_le hd hk9
      by_cases hlt : p + 1 + k < len ∧ k < 9
      · obtain ⟨hlt1, hlt2⟩ := hlt
        have c := hB.1 (p + 1 + k) hlt1
        have hz := hB.2 (p + 1 + k) hlt1
        by_cases d : isDig (Z (p + 1 + k))
        · have dd := hd.succ d
          have hw := wrap_dig d.1 d.2
          unfold isDig at d
          go_wp2
          go_round
          case rel => exact ⟨k + 1, by omega, .inr (by omega), dd, rfl, by go_num⟩
          case measure => simp [intOf]; omega
        · have hw := wrap_not hz.1 hz.2 d
          have hStop : Stop Z len (p + 1) k := ⟨hd, hk9, .inr (.inr d)⟩
          obtain ⟨dv, hdv⟩ : ∃ dv, IntKind.u8.wrap (Z (p + 1 + k) - 48) = dv := ⟨_, rfl⟩
          rw [hdv] at hw
          by_cases k0 : k = 0
          · subst k0
            go_wp2
            all_goals (go_ret3; exact ⟨⟨0, hStop, .inr ⟨fun h => absurd h.1 (by omega), rfl⟩⟩, rfl⟩)
          · have k1 : ((p : Int) + 1 + (k : Int) == (p : Int) + 1) = false := beq_eq_false_iff_ne.2 (by omega)
            by_cases r1 : len ≤ p + 1 + k + 1
            · go_wp2
              all_goals (go_ret3; exact ⟨⟨k, hStop, .inr ⟨fun h => absurd h.2.2.1 (by omega), rfl⟩⟩, rfl⟩)
            · have c0 := hB.1 (p + 1 + k) (by omega)
              have c1 := hB.1 (p + 1 + k + 1) (by omega)
              by_cases r2 : Z (p + 1 + k) = 13
              · have r2' : (Z (p + 1 + k) != 13) = false := by rw [r2]; rfl
                by_cases r3 : Z (p + 1 + k + 1) = 10
                · have r3' : (Z (p + 1 + k + 1) != 10) = false := by rw [r3]; rfl
                  have hF : Pl.Form Z len (p + 1) k := ⟨hStop.1, by omega, r2, r3⟩
                  have HF := hidden hF
                  clear r2 r3 hF
                  go_wp2
                  all_goals (go_ret3; exact ⟨⟨k, hStop, .inl ⟨by omega, HF.out, rfl⟩⟩, rfl⟩)
                · have r3' : (Z (p + 1 + k + 1) != 10) = true := bne_iff_ne.2 r3
                  clear r2
                  go_wp2
                  all_goals (go_ret3; exact ⟨⟨k, hStop, .inr ⟨fun h => absurd h.2.2.2.2 r3, rfl⟩⟩, rfl⟩)
              · have r2' : (Z (p + 1 + k) != 13) = true := bne_iff_ne.2 r2
                go_wp2
                all_goals (go_ret3; exact ⟨⟨k, hStop, .inr ⟨fun h => absurd h.2.2.2.1 r2, rfl⟩⟩, rfl⟩)
      · have hStop : Stop Z len (p + 1) k := ⟨hd, hk9, by omega⟩
        by_cases k0 : k = 0
        · subst k0
          go_wp2
          all_goals (go_ret3; exact ⟨⟨0, hStop, .inr ⟨fun h => absurd h.1 (by omega), rfl⟩⟩, rfl⟩)
        · have k1 : ((p : Int) + 1 + (k : Int) == (p : Int) + 1) = false := beq_eq_false_iff_ne.2 (by omega)
          by_cases r1 : len ≤ p + 1 + k + 1
          · go_wp2
            all_goals (go_ret3; exact ⟨⟨k, hStop, .inr ⟨fun h => absurd h.2.2.1 (by omega), rfl⟩⟩, rfl⟩)
          · have c0 := hB.1 (p + 1 + k) (by omega)
            have c1 := hB.1 (p + 1 + k + 1) (by omega)
            by_cases r2 : Z (p + 1 + k) = 13
            · have r2' : (Z (p + 1 + k) != 13) = false := by rw [r2]; rfl
              by_cases r3 : Z (p + 1 + k + 1) = 10
              · have r3' : (Z (p + 1 + k + 1) != 10) = false := by rw [r3]; rfl
                have hF : Pl.Form Z len (p + 1) k := ⟨hStop.1, by omega, r2, r3⟩
                have HF := hidden hF
                clear r2 r3 hF
                go_wp2
                all_goals (go_ret3; exact ⟨⟨k, hStop, .inl ⟨by omega, HF.out, rfl⟩⟩, rfl⟩)
              · have r3' : (Z (p + 1 + k + 1) != 10) = true := bne_iff_ne.2 r3
                clear r2
                go_wp2
                all_goals (go_ret3; exact ⟨⟨k, hStop, .inr ⟨fun h => absurd h.2.2.2.2 r3, rfl⟩⟩, rfl⟩)
            · have r2' : (Z (p + 1 + k) != 13) = true := bne_iff_ne.2 r2
              go_wp2
              all_goals (go_ret3; exact ⟨⟨k, hStop, .inr ⟨fun h => absurd h.2.2.2.1 r2, rfl⟩⟩, rfl⟩)

/-- The nil slice, or an empty one, at place 0. -/
theorem scan_empty (a : Option Addr) (cap : Nat) (Z : Nat → Int) (w : World) :
    Calls Try.prog 19 #[.slice a 0 cap, .int .i64 0] w fun e w' => Scanned Z 0 1 e ∧ w' = w := by
  go_enter Try.func19, Try.ntmps19
  go_wp2
  refine wp_loop_rounds 1 ?_; rw [rounds_succ]
  go_wp2
  go_ret3
  exact ⟨⟨0, ⟨fun j hj => absurd hj (Nat.not_lt_zero _), by omega, by omega⟩, .inr ⟨fun h => absurd h.1 (by omega), rfl⟩⟩, rfl⟩

theorem zscan_of (a p : Value) (w : World) (Z : Nat → Int) (len s : Nat) (h : Calls Try.prog 19 #[a, p] w fun e w' => Scanned Z len s e ∧ w' = w) :
    Calls Try.prog 10 #[a, p] w fun e w' => Scanned Z len s e ∧ w' = w := by
  have H := hidden h
  clear h
  go_enter Try.func10, Try.ntmps10
  go_wp2_with fail
  refine H.out.mono ?_
  rintro e w' ⟨⟨k, hs, ⟨h1, h2, rfl⟩ | ⟨h1, rfl⟩⟩, rfl⟩
  · go_wp2
    go_ret3
    exact ⟨⟨k, hs, .inl ⟨h1, h2, rfl⟩⟩, rfl⟩
  · go_wp2
    go_ret3
    exact ⟨⟨k, hs, .inr ⟨h1, rfl⟩⟩, rfl⟩

end Go.Proofs.Qxb6604269a
