/-
  WALKS: headerModel; the law.
-/
import Derived.Test.Qxb6604269aW2
namespace Go.Proofs.Qxb6604269a
open Go.RowKit Pl

/-- What headerModel answers. -/
def Modelled (Z : Nat → Int) (len s : Nat) (e : Ending) : Prop :=
  (∃ k, 1 ≤ k ∧ k ≤ 9 ∧ Pl.Form Z len s k ∧ e = .returned (.tuple #[.int .i64 (hv Z s k), .int .i64 (s + k + 2), .bool true])) ∨
    ((∀ k, 1 ≤ k → k ≤ 9 → ¬ Pl.Form Z len s k) ∧ e = .returned (.tuple #[.int .i64 0, .int .i64 0, .bool false]))

set_option maxRecDepth 20000 in
set_option maxHeartbeats 1000000 in
theorem model_any (b o len cap p : Nat) (Z : Nat → Int) (w : World) (hB : Bytes w b o len Z) (hl : len ≤ 1048576) (hp : p ≤ len) :
    Calls Try.prog 11 #[.slice (some ⟨b, o, none⟩) len cap, .int .i64 p] w fun e w' => Modelled Z len (p + 1) e ∧ w' = w := by
  go_enter Try.func11, Try.ntmps11
  go_wp2
  go_loopw [8] (fun kk wr => ∃ k : Nat, 1 ≤ k ∧ k ≤ 10 ∧ (∀ k', 1 ≤ k' → k' < k → ¬ Pl.Form Z len (p + 1) k') ∧ kk = .int .i64 k ∧ wr = w) (fun kk _ => 10 - (intOf kk).toNat)
  case atStart => exact ⟨1, by omega, by omega, fun k' h1 h2 => by omega, rfl, rfl⟩
  case round =>
    obtain ⟨k, h1, h10, hno, rfl, rfl⟩ := hrel
    by_cases h9 : k ≤ 9
    · by_cases r1 : p + 1 + k + 1 < len
      · have c0 := hB.1 (p + 1 + k) (by omega)
        have c1 := hB.1 (p + 1 + k + 1) (by omega)
        by_cases hF : Pl.Form Z len (p + 1) k
        · have hD := digits_yes b o len cap Z (p + 1) k wr hB hl (by omega) hF.1
          have hV := value_any b o len cap Z (p + 1) k wr hB hl (by omega) h9 hF.1
          simp only [Int.natCast_add, Int.natCast_one] at hD hV
          have HD := hidden hD
          have HV := hidden hV
          have r2' : (Z (p + 1 + k) == 13) = true := by rw [hF.2.2.1]; rfl
          have r3' : (Z (p + 1 + k + 1) == 10) = true := by rw [hF.2.2.2]; rfl
          have HF := hidden hF
          clear hD hV hF
          go_wp2_with fail
          refine HD.out.mono ?_
          rintro e w' ⟨rfl, rfl⟩
          go_wp2_with fail
          refine HV.out.mono ?_
          rintro e w' ⟨rfl, rfl⟩
          go_wp2
          go_ret3
          exact ⟨.inl ⟨k, h1, h9, HF.out, rfl⟩, rfl⟩
        · have NO : Hid (∀ k', 1 ≤ k' → k' < k + 1 → ¬ Pl.Form Z len (p + 1) k') := by
            intro k' g1 g2
            by_cases e : k' = k
            · subst e; exact hF
            · exact hno k' g1 (by omega)
          by_cases hd : Digs Z (p + 1) k
          · have hD := digits_yes b o len cap Z (p + 1) k wr hB hl (by omega) hd
            simp only [Int.natCast_add, Int.natCast_one] at hD
            have HD := hidden hD
            by_cases r2 : Z (p + 1 + k) = 13
            · have r2' : (Z (p + 1 + k) == 13) = true := by rw [r2]; rfl
              have r3' : (Z (p + 1 + k + 1) == 10) = false := beq_eq_false_iff_ne.2 (fun r3 => hF ⟨hd, r1, r2, r3⟩)
              clear hD r2 hF hd
              go_wp2_with fail
              refine HD.out.mono ?_
              rintro e w' ⟨rfl, rfl⟩
              go_wp2
              all_goals
                go_roundw
                case rel => exact ⟨k + 1, by omega, by omega, NO.out, by go_num, trivial⟩
                case measure => simp [intOf]; omega
            · have r2' : (Z (p + 1 + k) == 13) = false := beq_eq_false_iff_ne.2 r2
              clear hD r2 hF hd
              go_wp2_with fail
              refine HD.out.mono ?_
              rintro e w' ⟨rfl, rfl⟩
              go_wp2
              all_goals
                go_roundw
                case rel => exact ⟨k + 1, by omega, by omega, NO.out, by go_num, trivial⟩
                case measure => simp [intOf]; omega
          · have hD := digits_no b o len cap Z (p + 1) k wr hB hl (by omega) hd
            simp only [Int.natCast_add, Int.natCast_one] at hD
            have HD := hidden hD
            clear hD hF hd
            go_wp2_with fail
            refine HD.out.mono ?_
            rintro e w' ⟨rfl, rfl⟩
            go_wp2
            all_goals
              go_roundw
              case rel => exact ⟨k + 1, by omega, by omega, NO.out, by go_num, trivial⟩
              case measure => simp [intOf]; omega
      · have NO : Hid (∀ k', 1 ≤ k' → k' ≤ 9 → ¬ Pl.Form Z len (p + 1) k') := by
          intro k' g1 g2 hF
          by_cases e : k' < k
          · exact hno k' g1 e hF
          · have := hF.2.1; omega
        clear hno
        go_wp2
        go_ret3
        exact ⟨.inr ⟨NO.out, rfl⟩, rfl⟩
    · have NO : Hid (∀ k', 1 ≤ k' → k' ≤ 9 → ¬ Pl.Form Z len (p + 1) k') := fun k' g1 g2 => hno k' g1 (by omega)
      clear hno
      go_wp2
      go_ret3
      exact ⟨.inr ⟨NO.out, rfl⟩, rfl⟩

theorem model_empty (a : Option Addr) (cap : Nat) (Z : Nat → Int) (w : World) :
    Calls Try.prog 11 #[.slice a 0 cap, .int .i64 0] w fun e w' => Modelled Z 0 1 e ∧ w' = w := by
  go_enter Try.func11, Try.ntmps11
  go_wp2
  refine wp_loop_rounds 1 ?_; rw [rounds_succ]
  go_wp2
  go_ret3
  exact ⟨.inr ⟨fun k _ _ hF => absurd hF.2.1 (by omega), rfl⟩, rfl⟩

/-- THE PLAIN LAW: the two answers are one. -/
theorem agree {Z : Nat → Int} {len s : Nat} {e : Ending} (he : Scanned Z len s e) :
    ∃ (n m : Int) (c : Bool), e = .returned (.tuple #[.int .i64 n, .int .i64 m, .bool c]) ∧ ∀ f, Modelled Z len s f → f = .returned (.tuple #[.int .i64 n, .int .i64 m, .bool c]) := by
  obtain ⟨k, hs, ⟨h1, h2, rfl⟩ | ⟨h1, rfl⟩⟩ := he
  · refine ⟨_, _, _, rfl, fun f hf => ?_⟩
    rcases hf with ⟨l, l1, l9, g, rfl⟩ | ⟨g, rfl⟩
    · have := form_unique h2 g
      subst this
      rfl
    · exact absurd h2 (g k h1 hs.2.1)
  · refine ⟨_, _, _, rfl, fun f hf => ?_⟩
    rcases hf with ⟨l, l1, l9, g, rfl⟩ | ⟨g, rfl⟩
    · have := stop_form hs g l9
      subst this
      exact absurd ⟨l1, g⟩ h1
    · rfl

/-- From the clone on. -/
theorem law_of (a0 : Option Addr) (len cap : Nat) (pos : Nat) (Z : Nat → Int) (w : World) (hl : len ≤ 1048576) (hp : pos ≤ len)
    (hc : ∃ v, Calls Try.prog 9 #[.slice a0 len cap] w fun e w' => e = .returned v ∧ Below w.heap.size w w' ∧
      (Calls Try.prog 10 #[v, .int .i64 pos] w' fun e w'' => Scanned Z len (pos + 1) e ∧ w'' = w') ∧ (Calls Try.prog 11 #[v, .int .i64 pos] w' fun e w'' => Modelled Z len (pos + 1) e ∧ w'' = w')) :
    Calls Try.prog 3 #[.slice a0 len cap, .int .i64 pos] w fun e w' => e = .returned (.bool true) ∧ Below w.heap.size w w' := by
  obtain ⟨v, hc⟩ := hc
  have hb := bytes_any a0 len cap pos w (by unfold maxLen; omega)
  rw [decide_eq_true hl] at hb
  have HB := hidden hb
  have HC := hidden hc
  clear hb hc
  go_enter Try.func3, Try.ntmps3
  go_wp2_with fail
  refine HB.out.mono ?_
  rintro e w' ⟨rfl, rfl⟩
  go_wp2_with fail
  refine HC.out.mono ?_
  rintro e w1 ⟨rfl, hbel, hS, hM⟩
  have HS := hidden hS
  have HM := hidden hM
  have BEL := hidden hbel
  clear hS hM hbel HC HB
  go_wp2_with fail
  refine HS.out.mono ?_
  rintro e w2 ⟨hs, rfl⟩
  obtain ⟨n, m, c, rfl, hmod⟩ := agree hs
  have MOD := hidden hmod
  clear hmod hs HS
  go_wp2_with fail
  refine HM.out.mono ?_
  rintro e w3 ⟨hm, rfl⟩
  rw [MOD.out e hm]
  clear hm MOD HM
  cases c
  all_goals
    go_wp2
    go_ret
    exact ⟨rfl, BEL.out⟩

end Go.Proofs.Qxb6604269a
