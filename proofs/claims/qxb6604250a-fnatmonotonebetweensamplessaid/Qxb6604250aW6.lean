import Derived.Test.Qxb6604250aW5
namespace Go.Proofs.Qxb6604250a
open Go.RowKit Ieee
attribute [local go_sem] run_store_float

set_option maxHeartbeats 400000 in
theorem increasing_nil (a : Option Addr) (cap : Nat) (w : World) :
    Calls Try.prog 7 #[.slice a 0 cap] w fun e w' => ∃ r, e = .returned (.bool r) ∧ ∃ n, w' = w.drewN n := by
  go_enter Try.func7, Try.ntmps7
  go_wp2
  refine wp_loop_rounds 1 ?_; rw [rounds_succ]
  go_wp2
  go_ret
  exact ⟨_, rfl, 0, rfl⟩

theorem hidden {p : Prop} (h : p) : Hid p := h

theorem below_drewN (w : World) (n : Nat) : Below w.heap.size w (w.drewN n) := by
  induction n with
  | zero => exact Below.refl _ _
  | succ n ih => exact ih.drew

set_option maxRecDepth 100000 in
set_option maxHeartbeats 1000000 in
theorem law_short (a : Option Addr) (len cap : Nat) (i : Int) (t1 t2 : Nat) (w : World) (hl : len ≤ maxLen) (hi : (-9223372036854775808 : Int) ≤ i) (hi2 : i ≤ 9223372036854775807)
    (hinc : Calls Try.prog 7 #[.slice a len cap] w fun e w' => ∃ r, e = .returned (.bool r) ∧ ∃ n, w' = w.drewN n)
    (hs : i < 0 ∨ (len : Int) - 2 < i ∨ 32768 < len) :
    Calls Try.prog 4 #[.slice a len cap, .int .i64 i, .float .f64 t1, .float .f64 t2] w fun e w' => e = .returned (.bool true) ∧ Below w.heap.size w w' := by
  have hb := bytes_any a len cap i t1 t2 w hl
  unfold maxLen at hl
  by_cases h0 : len ≤ 1048576
  · rw [decide_eq_true h0] at hb
    have HB := hidden hb
    have HI := hidden hinc
    clear hb hinc
    by_cases h1 : len ≤ 32768
    · have k1 : (len : Int) ≤ 32768 := by omega
      by_cases hneg : i < 0
      all_goals
        go_enter Try.func4, Try.ntmps4
        go_wp2_with fail
        refine HB.out.mono ?_
        rintro e w' ⟨rfl, rfl⟩
        go_wp2_with fail
        refine HI.out.mono ?_
        rintro e w' ⟨r, rfl, n, rfl⟩
        cases r
        all_goals
          go_wp2
          go_ret
          exact ⟨rfl, below_drewN _ _⟩
    · have k1 : 32768 < (len : Int) := by omega
      go_enter Try.func4, Try.ntmps4
      go_wp2_with fail
      refine HB.out.mono ?_
      rintro e w' ⟨rfl, rfl⟩
      go_wp2_with fail
      go_ret
      exact ⟨rfl, Below.refl _ _⟩
  · rw [decide_eq_false h0] at hb
    have HB := hidden hb
    have HI := hidden hinc
    clear hb hinc
    go_enter Try.func4, Try.ntmps4
    go_wp2_with fail
    refine HB.out.mono ?_
    rintro e w' ⟨rfl, rfl⟩
    go_wp2_with fail
    go_ret
    exact ⟨rfl, Below.refl _ _⟩

theorem heap_drewN (w : World) (n : Nat) : (w.drewN n).heap = w.heap := by
  induction n with
  | zero => rfl
  | succ n ih => exact ih

theorem Samples.of_below {w w' : World} {b o len N : Nat} {F : Nat → Nat → Nat} (h : Samples w b o len F) (hb : b < N) (hw : Below N w w') : Samples w' b o len F := by
  intro k hk j hj
  rw [hw.cell (p := ⟨b, o + (k * 4 + j), none⟩) hb]
  exact h k hk j hj

theorem toSamples_at (g b o len cap : Nat) (F : Nat → Nat → Nat) (w : World) (hg : w.heap.size = g) (hl : len ≤ cap) (hl2 : len ≤ 1048576) (hb : b < g) (hs : Samples w b o len F) :
    Calls Try.prog 9 #[.slice (some ⟨b, o, none⟩) len cap] w fun e w' => e = .returned (.slice (some ⟨g, 0, none⟩) len len) ∧ Samples w' g 0 len F ∧ Below g w w' ∧ g < w'.heap.size := by
  subst hg; exact toSamples_any b o len cap F w hl hl2 hb hs

/-- The two instants' points, the way that the law asks for. -/
theorem law_plain {len k t1 t2 : Nat} (g cap : Nat) {F : Nat → Nat → Nat} (hk : k + 1 < len) (hl : len ≤ 32768)
    (h0 : small (F k 0) = true) (h1 : small (F (k + 1) 0) = true) (h2 : small (F k 1) = true) (h3 : small (F k 2) = true) (h4 : small (F k 3) = true)
    (h5 : small (F (k + 1) 1) = true) (h6 : small (F (k + 1) 2) = true) (h7 : small (F (k + 1) 3) = true)
    (e : leW (F k 0) t1 = true ∧ leW t1 t2 = true ∧ ltW t2 (F (k + 1) 0) = true) :
    ∃ (c d : Nat → Nat), FloatKind.f64.format.order (c 0) t1 = some .eq ∧ FloatKind.f64.format.order (d 0) t2 = some .eq ∧
      (∀ w, Samples w g 0 len F → g < w.heap.size → Calls Try.prog 8 #[.slice (some ⟨g, 0, none⟩) len cap, .int .i64 k, .float .f64 t1] w fun e w' => e = .returned (.agg #[.float .f64 (c 0), .float .f64 (c 1), .float .f64 (c 2), .float .f64 (c 3)]) ∧ Below w.heap.size w w') ∧
      (∀ w, Samples w g 0 len F → g < w.heap.size → Calls Try.prog 8 #[.slice (some ⟨g, 0, none⟩) len cap, .int .i64 k, .float .f64 t2] w fun e w' => e = .returned (.agg #[.float .f64 (d 0), .float .f64 (d 1), .float .f64 (d 2), .float .f64 (d 3)]) ∧ Below w.heap.size w w') ∧
      ∀ j, 1 ≤ j → j < 4 → ∀ w, Calls Try.prog 14 #[.float .f64 (F k j), .float .f64 (F (k + 1) j), .float .f64 (c j), .float .f64 (d j)] w fun e w' => e = .returned (.bool true) ∧ w' = w := by
  obtain ⟨A0, a0⟩ := small_val h0
  obtain ⟨A1, a1⟩ := small_val h2
  obtain ⟨A2, a2⟩ := small_val h3
  obtain ⟨A3, a3⟩ := small_val h4
  obtain ⟨B0, b0⟩ := small_val h1
  obtain ⟨B1, b1⟩ := small_val h5
  obtain ⟨B2, b2⟩ := small_val h6
  obtain ⟨B3, b3⟩ := small_val h7
  obtain ⟨z1, z2, hz1, hz2, k1, k2, k3⟩ := between a0 b0 e.1 e.2.1 e.2.2
  obtain ⟨zD, DX, hD, hDX, hp⟩ := pathAt_seg g 0 len cap k F hk (by omega) (fun j => if j = 0 then A0 else if j = 1 then A1 else if j = 2 then A2 else A3) (fun j => if j = 0 then B0 else if j = 1 then B1 else if j = 2 then B2 else B3)
    (by
      intro j hj
      have : j = 0 ∨ j = 1 ∨ j = 2 ∨ j = 3 := by omega
      rcases this with rfl | rfl | rfl | rfl
      · exact a0
      · exact a1
      · exact a2
      · exact a3)
    (by
      intro j hj
      have : j = 0 ∨ j = 1 ∨ j = 2 ∨ j = 3 := by omega
      rcases this with rfl | rfl | rfl | rfl
      · exact b0
      · exact b1
      · exact b2
      · exact b3)
    (show A0 < B0 by omega)
  obtain ⟨c, zf1, G1, f1, o1, w1, p1⟩ := hp t1 z1 hz1 (show A0 ≤ z1 from k1) (show z1 < B0 by omega)
  obtain ⟨d, zf2, G2, f2, o2, w2, p2⟩ := hp t2 z2 hz2 (show A0 ≤ z2 by omega) (show z2 < B0 from k3)
  refine ⟨c, d, o1, o2, p1, p2, ?_⟩
  have hf := Frac.mono hD f1 f2 k2
  intro j hj1 hj4 w
  have hdx := hDX j hj1 hj4
  have hA : Fl.Val double (F k j) ((fun j => if j = 0 then A0 else if j = 1 then A1 else if j = 2 then A2 else A3) j) := by
    have : j = 1 ∨ j = 2 ∨ j = 3 := by omega
    rcases this with rfl | rfl | rfl
    · exact a1.1
    · exact a2.1
    · exact a3.1
  have hB : Fl.Val double (F (k + 1) j) ((fun j => if j = 0 then B0 else if j = 1 then B1 else if j = 2 then B2 else B3) j) := by
    have : j = 1 ∨ j = 2 ∨ j = 3 := by omega
    rcases this with rfl | rfl | rfl
    · exact b1.1
    · exact b2.1
    · exact b3.1
  refine moves_any _ _ _ _ _ _ _ _ w hA hB (w1 j hj1 hj4).1 (w2 j hj1 hj4).1 ?_ ?_
  · intro h
    refine Fl.Way.up (w1 j hj1 hj4).2 (w2 j hj1 hj4).2 hf ?_
    obtain ⟨_, _, _, c1, _⟩ := hdx
    exact c1 (Int.sub_nonneg.2 h)
  · intro h
    refine Fl.Way.down (w1 j hj1 hj4).2 (w2 j hj1 hj4).2 hf ?_
    obtain ⟨_, _, _, _, c2⟩ := hdx
    exact c2 (Int.sub_nonpos_of_le h)

set_option maxRecDepth 100000 in
set_option maxHeartbeats 1000000 in
theorem law_seg (b o len cap k : Nat) (t1 t2 : Nat) (F : Nat → Nat → Nat) (w : World) (hl : len ≤ 32768) (hk : k + 1 < len) (hbs : b < w.heap.size) (hlc : len ≤ cap) (hcm : cap ≤ maxLen) (hs : Samples w b o len F) :
    Calls Try.prog 4 #[.slice (some ⟨b, o, none⟩) len cap, .int .i64 k, .float .f64 t1, .float .f64 t2] w fun e w' => e = .returned (.bool true) ∧ Below w.heap.size w w' := by
  have hb := bytes_any (some ⟨b, o, none⟩) len cap k t1 t2 w (Nat.le_trans hlc hcm)
  rw [decide_eq_true (by omega)] at hb
  have HB := hidden hb
  have HI := hidden (increasing_some b o len cap F w hlc hcm hs)
  clear hb
  have i1 : (k : Int) < (len : Int) := by omega
  have i2 : (k : Int) + 1 < (len : Int) := by omega
  have k1 : (len : Int) ≤ 32768 := by omega
  go_enter Try.func4, Try.ntmps4
  go_wp2_with fail
  refine HB.out.mono ?_
  rintro e w' ⟨rfl, rfl⟩
  go_wp2_with fail
  refine HI.out.mono ?_
  rintro e w2 ⟨r, rfl, n, rfl⟩
  cases r
  · go_wp2
    go_ret
    exact ⟨rfl, below_drewN _ _⟩
  · obtain ⟨w1, hw1⟩ : ∃ w1, w1 = w'.drewN n := ⟨_, rfl⟩
    rw [← hw1]
    have hbel := hidden (show Below w'.heap.size w' w1 by rw [hw1]; exact below_drewN _ _)
    have hsz := hidden (show w1.heap.size = w'.heap.size by rw [hw1, heap_drewN])
    have hs1 : Samples w1 b o len F := hs.of_below hbs hbel.out
    have hb1 : b < w1.heap.size := by rw [hsz.out]; exact hbs
    clear hs hw1 HB HI
    have c0 : w1.cell? ⟨b, o + k * 4, none⟩ = some (.float .f64 (F k 0)) := by simpa using hs1 k (by omega) 0 (by omega)
    have c1 : w1.cell? ⟨b, o + k * 4 + 1, none⟩ = some (.float .f64 (F k 1)) := by simpa [Nat.add_assoc] using hs1 k (by omega) 1 (by omega)
    have c2 : w1.cell? ⟨b, o + k * 4 + 2, none⟩ = some (.float .f64 (F k 2)) := by simpa [Nat.add_assoc] using hs1 k (by omega) 2 (by omega)
    have c3 : w1.cell? ⟨b, o + k * 4 + 3, none⟩ = some (.float .f64 (F k 3)) := by simpa [Nat.add_assoc] using hs1 k (by omega) 3 (by omega)
    have d0 : w1.cell? ⟨b, o + (k + 1) * 4, none⟩ = some (.float .f64 (F (k + 1) 0)) := by simpa using hs1 (k + 1) hk 0 (by omega)
    have d1 : w1.cell? ⟨b, o + (k + 1) * 4 + 1, none⟩ = some (.float .f64 (F (k + 1) 1)) := by simpa [Nat.add_assoc] using hs1 (k + 1) hk 1 (by omega)
    have d2 : w1.cell? ⟨b, o + (k + 1) * 4 + 2, none⟩ = some (.float .f64 (F (k + 1) 2)) := by simpa [Nat.add_assoc] using hs1 (k + 1) hk 2 (by omega)
    have d3 : w1.cell? ⟨b, o + (k + 1) * 4 + 3, none⟩ = some (.float .f64 (F (k + 1) 3)) := by simpa [Nat.add_assoc] using hs1 (k + 1) hk 3 (by omega)
    have n1 : ¬ (w1.heap.size = b) := by omega
    have n2 : ¬ (b = w1.heap.size) := by omega
    have n3 : ¬ (b = w1.heap.size + 1) := by omega
    have n4 : ¬ (w1.heap.size + 1 = b) := by omega
    have fin : ∀ o1 o2, Below w'.heap.size w' ((w1.alloc o1).alloc o2) := fun o1 o2 => (hbel.out.alloc (Nat.le_of_eq hsz.out.symm) o1).alloc (by simp; rw [hsz.out]; omega) o2
    have FIN := hidden fin
    clear fin
    go_wp2_with fail
    · go_ret
      exact ⟨rfl, FIN.out _ _⟩
    rotate_left
    · go_ret
      exact ⟨rfl, FIN.out _ _⟩
    · go_ret
      exact ⟨rfl, FIN.out _ _⟩
    have e1 : leW (F k 0) t1 = true := by
      unfold leW; rcases ‹FloatKind.f64.format.order (F k 0) t1 = some Ordering.lt ∨ FloatKind.f64.format.order (F k 0) t1 = some Ordering.eq› with h | h <;> rw [h] <;> rfl
    have e2 : leW t1 t2 = true := by
      unfold leW; rcases ‹FloatKind.f64.format.order t1 t2 = some Ordering.lt ∨ FloatKind.f64.format.order t1 t2 = some Ordering.eq› with h | h <;> rw [h] <;> rfl
    have e3 : ltW t2 (F (k + 1) 0) = true := by
      have h := (‹(_ ∧ _) ∧ (!FloatKind.f64.format.order t2 (F (k + 1) 0) == some Ordering.lt) = false›).2
      unfold ltW; simpa using h
    have E := hidden (And.intro e1 (And.intro e2 e3))
    clear e1 e2 e3
    refine (small_any _ _).mono ?_
    rintro e w2 ⟨rfl, rfl⟩
    cases s0 : small (F k 0)
    · go_wp2
      go_ret
      exact ⟨rfl, FIN.out _ _⟩
    go_wp2_with fail
    refine (small_any _ _).mono ?_
    rintro e w2 ⟨rfl, rfl⟩
    cases s1 : small (F (k + 1) 0)
    · go_wp2
      go_ret
      exact ⟨rfl, FIN.out _ _⟩
    go_wp2_with fail
    refine (small_any _ _).mono ?_
    rintro e w2 ⟨rfl, rfl⟩
    cases s2 : small (F k 1)
    · go_wp2
      go_ret
      exact ⟨rfl, FIN.out _ _⟩
    go_wp2_with fail
    refine (small_any _ _).mono ?_
    rintro e w2 ⟨rfl, rfl⟩
    cases s3 : small (F k 2)
    · go_wp2
      go_ret
      exact ⟨rfl, FIN.out _ _⟩
    go_wp2_with fail
    refine (small_any _ _).mono ?_
    rintro e w2 ⟨rfl, rfl⟩
    cases s4 : small (F k 3)
    · go_wp2
      go_ret
      exact ⟨rfl, FIN.out _ _⟩
    go_wp2_with fail
    refine (small_any _ _).mono ?_
    rintro e w2 ⟨rfl, rfl⟩
    cases s5 : small (F (k + 1) 1)
    · go_wp2
      go_ret
      exact ⟨rfl, FIN.out _ _⟩
    go_wp2_with fail
    refine (small_any _ _).mono ?_
    rintro e w2 ⟨rfl, rfl⟩
    cases s6 : small (F (k + 1) 2)
    · go_wp2
      go_ret
      exact ⟨rfl, FIN.out _ _⟩
    go_wp2_with fail
    refine (small_any _ _).mono ?_
    rintro e w2 ⟨rfl, rfl⟩
    cases s7 : small (F (k + 1) 3)
    · go_wp2
      go_ret
      exact ⟨rfl, FIN.out _ _⟩
    go_wp2_with fail
    obtain ⟨g, hg⟩ : ∃ g, w1.heap.size + 2 = g := ⟨_, rfl⟩
    obtain ⟨c, d, o1, o2, P1, P2, M⟩ := law_plain g len hk hl s0 s1 s2 s3 s4 s5 s6 s7 E.out
    have HP1 := hidden P1
    have HP2 := hidden P2
    have HM := hidden M
    have HG := hidden hg
    have g1 : w1.heap.size + 1 < g := by omega
    clear P1 P2 M E s0 s1 s2 s3 s4 s5 s6 s7
    refine (toSamples_at g b o len cap F _ (by simp; omega) hlc (by omega) (by omega) ((hs1.alloc hb1 _).alloc (by simp; omega) _)).mono ?_
    clear hg
    rintro e w2 ⟨rfl, hS2, hb2, hl2⟩
    have a0 := hb2.cell (p := ⟨w1.heap.size, 0, none⟩) (by show w1.heap.size < g; omega)
    have a1 := hb2.cell (p := ⟨w1.heap.size, 1, none⟩) (by show w1.heap.size < g; omega)
    have a2 := hb2.cell (p := ⟨w1.heap.size, 2, none⟩) (by show w1.heap.size < g; omega)
    have a3 := hb2.cell (p := ⟨w1.heap.size, 3, none⟩) (by show w1.heap.size < g; omega)
    have b0 := hb2.cell (p := ⟨w1.heap.size + 1, 0, none⟩) (by show w1.heap.size + 1 < g; omega)
    have b1 := hb2.cell (p := ⟨w1.heap.size + 1, 1, none⟩) (by show w1.heap.size + 1 < g; omega)
    have b2 := hb2.cell (p := ⟨w1.heap.size + 1, 2, none⟩) (by show w1.heap.size + 1 < g; omega)
    have b3 := hb2.cell (p := ⟨w1.heap.size + 1, 3, none⟩) (by show w1.heap.size + 1 < g; omega)
    simp at a0 a1 a2 a3 b0 b1 b2 b3
    have B2 := hidden ((FIN.out _ _).trans (hb2.mono (by rw [← hsz.out]; omega)))
    clear hb2 FIN c0 c1 c2 c3 d0 d1 d2 d3 n1 n2 n3 n4
    go_wp2_with fail
    refine (HP1.out _ hS2 hl2).mono ?_
    rintro e w3 ⟨rfl, hb3⟩
    have ua0 := (hb3.cell (p := ⟨w1.heap.size, 0, none⟩) (by show w1.heap.size < w2.heap.size; omega)).trans a0
    have ua1 := (hb3.cell (p := ⟨w1.heap.size, 1, none⟩) (by show w1.heap.size < w2.heap.size; omega)).trans a1
    have ua2 := (hb3.cell (p := ⟨w1.heap.size, 2, none⟩) (by show w1.heap.size < w2.heap.size; omega)).trans a2
    have ua3 := (hb3.cell (p := ⟨w1.heap.size, 3, none⟩) (by show w1.heap.size < w2.heap.size; omega)).trans a3
    have ub0 := (hb3.cell (p := ⟨w1.heap.size + 1, 0, none⟩) (by show w1.heap.size + 1 < w2.heap.size; omega)).trans b0
    have ub1 := (hb3.cell (p := ⟨w1.heap.size + 1, 1, none⟩) (by show w1.heap.size + 1 < w2.heap.size; omega)).trans b1
    have ub2 := (hb3.cell (p := ⟨w1.heap.size + 1, 2, none⟩) (by show w1.heap.size + 1 < w2.heap.size; omega)).trans b2
    have ub3 := (hb3.cell (p := ⟨w1.heap.size + 1, 3, none⟩) (by show w1.heap.size + 1 < w2.heap.size; omega)).trans b3
    have z3 := hb3.size
    have hS3 : Samples w3 g 0 len F := hS2.of_below hl2 hb3
    have B3 := hidden (B2.out.trans (hb3.mono (by rw [← hsz.out]; omega)))
    clear a0 a1 a2 a3 b0 b1 b2 b3 hb3 hS2
    go_wp2_with fail
    refine (HP2.out _ (hS3.alloc (by omega) _) (by simp; omega)).mono ?_
    rintro e w5 ⟨rfl, hb5⟩
    have z5 := hb5.size
    have q0 := hb5.cell (p := ⟨w3.heap.size, 0, none⟩) (by simp)
    have q1 := hb5.cell (p := ⟨w3.heap.size, 1, none⟩) (by simp)
    have q2 := hb5.cell (p := ⟨w3.heap.size, 2, none⟩) (by simp)
    have q3 := hb5.cell (p := ⟨w3.heap.size, 3, none⟩) (by simp)
    simp at q0 q1 q2 q3 z5
    have va0 := (hb5.cell (p := ⟨w1.heap.size, 0, none⟩) (by simp; omega)).trans ((((Below.refl w3.heap.size w3).alloc (Nat.le_refl _) _).cell (p := ⟨w1.heap.size, 0, none⟩) (by show w1.heap.size < w3.heap.size; omega)).trans ua0)
    have va1 := (hb5.cell (p := ⟨w1.heap.size, 1, none⟩) (by simp; omega)).trans ((((Below.refl w3.heap.size w3).alloc (Nat.le_refl _) _).cell (p := ⟨w1.heap.size, 1, none⟩) (by show w1.heap.size < w3.heap.size; omega)).trans ua1)
    have va2 := (hb5.cell (p := ⟨w1.heap.size, 2, none⟩) (by simp; omega)).trans ((((Below.refl w3.heap.size w3).alloc (Nat.le_refl _) _).cell (p := ⟨w1.heap.size, 2, none⟩) (by show w1.heap.size < w3.heap.size; omega)).trans ua2)
    have va3 := (hb5.cell (p := ⟨w1.heap.size, 3, none⟩) (by simp; omega)).trans ((((Below.refl w3.heap.size w3).alloc (Nat.le_refl _) _).cell (p := ⟨w1.heap.size, 3, none⟩) (by show w1.heap.size < w3.heap.size; omega)).trans ua3)
    have vb0 := (hb5.cell (p := ⟨w1.heap.size + 1, 0, none⟩) (by simp; omega)).trans ((((Below.refl w3.heap.size w3).alloc (Nat.le_refl _) _).cell (p := ⟨w1.heap.size + 1, 0, none⟩) (by show w1.heap.size + 1 < w3.heap.size; omega)).trans ub0)
    have vb1 := (hb5.cell (p := ⟨w1.heap.size + 1, 1, none⟩) (by simp; omega)).trans ((((Below.refl w3.heap.size w3).alloc (Nat.le_refl _) _).cell (p := ⟨w1.heap.size + 1, 1, none⟩) (by show w1.heap.size + 1 < w3.heap.size; omega)).trans ub1)
    have vb2 := (hb5.cell (p := ⟨w1.heap.size + 1, 2, none⟩) (by simp; omega)).trans ((((Below.refl w3.heap.size w3).alloc (Nat.le_refl _) _).cell (p := ⟨w1.heap.size + 1, 2, none⟩) (by show w1.heap.size + 1 < w3.heap.size; omega)).trans ub2)
    have vb3 := (hb5.cell (p := ⟨w1.heap.size + 1, 3, none⟩) (by simp; omega)).trans ((((Below.refl w3.heap.size w3).alloc (Nat.le_refl _) _).cell (p := ⟨w1.heap.size + 1, 3, none⟩) (by show w1.heap.size + 1 < w3.heap.size; omega)).trans ub3)
    have B5 := hidden ((B3.out.alloc (by rw [← hsz.out]; omega) _).trans (hb5.mono (by simp; rw [← hsz.out]; omega)))
    have x1 : w1.heap.size < w5.heap.size := by omega
    have x2 : w1.heap.size + 1 < w5.heap.size := by omega
    have x3 : w3.heap.size < w5.heap.size := by omega
    clear ua0 ua1 ua2 ua3 ub0 ub1 ub2 ub3 hb5 hS3
    have m1 := hidden (HM.out 1 (by omega) (by omega))
    have m2 := hidden (HM.out 2 (by omega) (by omega))
    have m3 := hidden (HM.out 3 (by omega) (by omega))
    clear HM HP1 HP2
    go_wp2_with fail
    refine (m1.out _).mono ?_
    rintro e w6 ⟨rfl, rfl⟩
    go_wp2_with fail
    refine (m2.out _).mono ?_
    rintro e w6 ⟨rfl, rfl⟩
    go_wp2_with fail
    refine (m3.out _).mono ?_
    rintro e w6 ⟨rfl, rfl⟩
    go_wp2_with fail
    go_ret
    exact ⟨rfl, B5.out.alloc (by rw [← hsz.out]; omega) _⟩

end Go.Proofs.Qxb6604250a
