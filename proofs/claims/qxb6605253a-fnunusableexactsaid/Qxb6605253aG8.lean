/-
  WALKS: mismatch, targetsOf.
-/
import Derived.Test.Qxb6605253aG7
namespace Go.Proofs.Qxb6605253a
open Go.RowKit Go.Maps
set_option linter.unusedVariables false
set_option linter.unusedSimpArgs false

/-- The three cells of a boxed target. -/
def Box3 (B : Nat) (x : T3) (w : World) : Prop := w.cell? ⟨B, 0, none⟩ = some (.string x.be) ∧ w.cell? ⟨B, 1, none⟩ = some (.string x.ar) ∧ w.cell? ⟨B, 2, none⟩ = some (.int .i64 x.ws)

theorem Box3.same {B : Nat} {x : T3} {w w' : World} (h : Box3 B x w) (e : w'.heap[B]? = w.heap[B]?) : Box3 B x w' :=
  ⟨by rw [World.cell?_of_block (a := ⟨B, 0, none⟩) e]; exact h.1, by rw [World.cell?_of_block (a := ⟨B, 1, none⟩) e]; exact h.2.1, by rw [World.cell?_of_block (a := ⟨B, 2, none⟩) e]; exact h.2.2⟩

theorem heap_old (w : World) (o : Obj) {b : Nat} (h : b < w.heap.size) : (w.alloc o).heap[b]? = w.heap[b]? := (World.grownBy_alloc w o none).block b h (by simp)

theorem below_grown {N : Nat} {w w1 w2 : World} {row : Option Nat} (h : Below N w w1) (hN : N ≤ w1.heap.size) (hg : w1.grownBy w2 row) (hB : ∀ B, row = some B → N ≤ B) : Below N w w2 :=
  ⟨hg.os.trans h.os, hg.tape.trans h.tape, hg.output.trans h.output, Nat.le_trans h.size hg.size, fun j hj => by
    rw [hg.block j (by omega) fun e => by
      have h2 := hB j e.symm
      omega]
    exact h.block j hj⟩

/-- After k of them: is there one with the backend; with the arch too? -/
def MB (k : Nat) (t : Nat → T3) (x : T3) (bb ba : Bool) : Prop := (bb = true ↔ ∃ j, j < k ∧ (t j).be = x.be) ∧ (ba = true ↔ ∃ j, j < k ∧ (t j).be = x.be ∧ (t j).ar = x.ar)

theorem MB.skip {k : Nat} {t : Nat → T3} {x : T3} {bb ba : Bool} (h : MB k t x bb ba) (hne : (t k).be ≠ x.be) : MB (k + 1) t x bb ba := by
  refine ⟨h.1.trans ⟨fun ⟨j, h1, h2⟩ => ⟨j, by omega, h2⟩, fun ⟨j, h1, h2⟩ => ⟨j, ?_, h2⟩⟩, h.2.trans ⟨fun ⟨j, h1, h2⟩ => ⟨j, by omega, h2⟩, fun ⟨j, h1, h2⟩ => ⟨j, ?_, h2⟩⟩⟩
  · by_cases e : j = k
    · subst e; exact absurd h2 hne
    · omega
  · by_cases e : j = k
    · subst e; exact absurd h2.1 hne
    · omega

theorem MB.hit {k : Nat} {t : Nat → T3} {x : T3} {bb ba : Bool} (h : MB k t x bb ba) (he : (t k).be = x.be) (ha : ba = true ∨ (t k).ar = x.ar) : MB (k + 1) t x true true := by
  refine ⟨⟨fun _ => ⟨k, by omega, he⟩, fun _ => rfl⟩, ⟨fun _ => ?_, fun _ => rfl⟩⟩
  rcases ha with ha | ha
  · obtain ⟨j, h1, h2⟩ := h.2.1 ha
    exact ⟨j, by omega, h2⟩
  · exact ⟨k, by omega, he, ha⟩

theorem MB.half {k : Nat} {t : Nat → T3} {x : T3} {bb : Bool} (h : MB k t x bb false) (he : (t k).be = x.be) (ha : (t k).ar ≠ x.ar) : MB (k + 1) t x true false := by
  refine ⟨⟨fun _ => ⟨k, by omega, he⟩, fun _ => rfl⟩, ⟨fun g => (by cases g), fun ⟨j, h1, h2, h3⟩ => ?_⟩⟩
  by_cases e : j = k
  · subst e; exact absurd h3 ha
  · exact h.2.2 ⟨j, by omega, h2, h3⟩

theorem MB.why {n : Nat} {t : Nat → T3} {x : T3} {bb ba : Bool} (h : MB n t x bb ba) : Why n t x (if bb = false then bm else if ba = false then am else wm) := by
  cases bb with
  | false => exact .inr (.inr ⟨rfl, fun j hj e => by have := h.1.2 ⟨j, hj, e⟩; cases this⟩)
  | true =>
    cases ba with
    | false => exact .inr (.inl ⟨rfl, h.1.1 rfl, fun j hj e => by have := h.2.2 ⟨j, hj, e⟩; cases this⟩)
    | true => exact .inl ⟨rfl, h.2.1 rfl⟩

set_option maxRecDepth 100000 in
set_option maxHeartbeats 4000000 in
theorem mismatch38 (x : T3) (a : Option Addr) (n c hi : Nat) (t : Nat → T3) (w : World) (hn : n ≤ 4096) (hhi : hi ≤ w.heap.size) (hr : SRow w hi a n 3 (tV t)) :
    Calls Try.prog 38 #[x.val, .slice a n c] w fun e w' => (∃ s, e = .returned (.string s) ∧ Why n t x s) ∧ Below w.heap.size w w' := by
  have HR := hidden hr
  clear hr
  unfold T3.val
  go_enter Try.func38, Try.ntmps38
  go_wp2
  go_loopw [5, 6, 11] (fun bv av i wr => ∃ (k : Nat) (bb ba : Bool), k ≤ n ∧ bv = .bool bb ∧ av = .bool ba ∧ i = .int .i64 k ∧ Below w.heap.size w wr ∧ w.heap.size < wr.heap.size ∧ Box3 w.heap.size x wr ∧ MB k t x bb ba) (fun _ _ i _ => n - (intOf i).toNat)
  case atStart => exact ⟨0, false, false, Nat.zero_le _, rfl, rfl, rfl, (Below.refl _ _).alloc (Nat.le_refl _) _, by simp, ⟨by simp, by simp, by simp⟩, ⟨fun h => (by cases h), fun ⟨j, h, _⟩ => absurd h (Nat.not_lt_zero _)⟩, ⟨fun h => (by cases h), fun ⟨j, h, _⟩ => absurd h (Nat.not_lt_zero _)⟩⟩
  case round =>
    obtain ⟨k, bb, ba, hk, rfl, rfl, rfl, hb, hsz, hbox, hmb⟩ := hrel
    have BB := hidden hb
    have BX := hidden hbox
    have MM := hidden hmb
    by_cases hlt : k < n
    · rcases HR.out.below hb hhi with h0 | ⟨b, o, rfl, hbh, hc⟩
      · omega
      have c0 : wr.cell? ⟨b, o + k * 3, none⟩ = some (.string (t k).be) := hc k hlt 0 (by omega)
      have c1 : wr.cell? ⟨b, o + k * 3 + 1, none⟩ = some (.string (t k).ar) := hc k hlt 1 (by omega)
      have c2 : wr.cell? ⟨b, o + k * 3 + 2, none⟩ = some (.int .i64 (t k).ws) := hc k hlt 2 (by omega)
      obtain ⟨x0, x1, x2⟩ := hbox
      have N1 : Hid (∀ ob, Below w.heap.size w (wr.alloc ob) ∧ w.heap.size < (wr.alloc ob).heap.size ∧ Box3 w.heap.size x (wr.alloc ob)) := ⟨fun ob => ⟨BB.out.alloc (by omega) _, by simp; omega, BX.out.same (heap_old wr ob hsz)⟩⟩
      clear hc hb hmb
      by_cases e1 : (t k).be = x.be
      · have f1 := e1
        rw [e1] at c0
        by_cases e2 : ba = true ∨ (t k).ar = x.ar
        · have NX := hidden (MM.out.hit e1 e2)
          by_cases e3 : ba = true
          · subst e3
            clear e1 e2 f1
            go_wp2
            go_roundw
            case rel => exact ⟨k + 1, true, true, by omega, rfl, rfl, by go_num, (N1.out _).1, (N1.out _).2.1, (N1.out _).2.2, NX.out⟩
            case measure => simp [intOf]; omega
          · have e4 : ba = false := Bool.eq_false_iff.2 e3
            have e5 := e2.resolve_left e3
            subst e4
            rw [e5] at c1
            clear e1 e2 e3 e5 f1
            go_wp2
            go_roundw
            case rel => exact ⟨k + 1, true, true, by omega, rfl, rfl, by go_num, (N1.out _).1, (N1.out _).2.1, (N1.out _).2.2, NX.out⟩
            case measure => simp [intOf]; omega
        · have e4 : ba = false := Bool.eq_false_iff.2 fun g => e2 (.inl g)
          have e5 : (t k).ar ≠ x.ar := fun g => e2 (.inr g)
          subst e4
          have NX := hidden (MM.out.half e1 e5)
          have e6 := bytes_ne e5
          clear e1 e2 e5 f1
          go_wp2
          go_roundw
          case rel => exact ⟨k + 1, true, false, by omega, rfl, rfl, by go_num, (N1.out _).1, (N1.out _).2.1, (N1.out _).2.2, NX.out⟩
          case measure => simp [intOf]; omega
      · have NX := hidden (MM.out.skip e1)
        have e6 := bytes_ne e1
        clear e1
        go_wp2
        go_roundw
        case rel => exact ⟨k + 1, bb, ba, by omega, rfl, rfl, by go_num, (N1.out _).1, (N1.out _).2.1, (N1.out _).2.2, NX.out⟩
        case measure => simp [intOf]; omega
    · have e : n = k := by omega
      subst e
      have WY := hidden MM.out.why
      clear hb hmb hbox
      cases bb with
      | false =>
        go_wp2
        go_ret
        exact ⟨⟨_, rfl, WY.out⟩, BB.out⟩
      | true =>
        cases ba with
        | false =>
          go_wp2
          go_ret
          exact ⟨⟨_, rfl, WY.out⟩, BB.out⟩
        | true =>
          go_wp2
          go_ret
          exact ⟨⟨_, rfl, WY.out⟩, BB.out⟩

set_option maxRecDepth 100000 in
set_option maxHeartbeats 4000000 in
theorem targetsOf41 (a : Option Addr) (n c hi : Nat) (g : Nat → G6) (w : World) (hn : n ≤ 4096) (hhi : hi ≤ w.heap.size) (hr : SRow w hi a n 6 (gV g)) (hok : ∀ i, i < n → (g i).t.ok) :
    Calls Try.prog 41 #[.slice a n c] w fun e w' => e = .returned (.map (some w.heap.size)) ∧ Below w.heap.size w w' ∧ TM w.heap.size n (fun i => (g i).t) w' := by
  have HR := hidden hr
  have HO := hidden hok
  have hmm := @run_makeMap Try.prog
  clear hr hok
  go_enter Try.func41, Try.ntmps41
  go_wp2
  go_loopw [9] (fun i wr => ∃ k : Nat, k ≤ n ∧ i = .int .i64 k ∧ Below w.heap.size w wr ∧ TM w.heap.size k (fun i => (g i).t) wr) (fun i _ => n - (intOf i).toNat)
  case atStart => exact ⟨0, Nat.zero_le _, rfl, (Below.refl _ _).alloc (Nat.le_refl _) _, TM.start w _⟩
  case round =>
    obtain ⟨k, hk, rfl, hb, htm⟩ := hrel
    have BB := hidden hb
    have TT := hidden htm
    clear hmm
    by_cases hlt : k < n
    · rcases HR.out.below hb hhi with h0 | ⟨b, o, rfl, hbh, hc⟩
      · omega
      have c0 : wr.cell? ⟨b, o + k * 6, none⟩ = some (.int .i64 (g k).ix) := hc k hlt 0 (by omega)
      have c1 : wr.cell? ⟨b, o + k * 6 + 1, none⟩ = some (.string (g k).t.be) := hc k hlt 1 (by omega)
      have c2 : wr.cell? ⟨b, o + k * 6 + 2, none⟩ = some (.string (g k).t.ar) := hc k hlt 2 (by omega)
      have c3 : wr.cell? ⟨b, o + k * 6 + 3, none⟩ = some (.int .i64 (g k).t.ws) := hc k hlt 3 (by omega)
      have c4 : wr.cell? ⟨b, o + k * 6 + 4, none⟩ = some (.string (g k).pr) := hc k hlt 4 (by omega)
      have c5 : wr.cell? ⟨b, o + k * 6 + 5, none⟩ = some (.string (g k).dr) := hc k hlt 5 (by omega)
      have hok := HO.out k hlt
      obtain ⟨D, ho, hD, hat⟩ := htm
      have OWN := hidden (ho.alloc (.cells #[.int .i64 (g k).ix, .string (g k).t.be, .string (g k).t.ar, .int .i64 (g k).t.ws, .string (g k).pr, .string (g k).dr] 75))
      have hlB := ho.lt
      have KEY := hidden (key30 hok)
      have PUT : Hid (∀ w2, ((wr.alloc (.cells #[.int .i64 (g k).ix, .string (g k).t.be, .string (g k).t.ar, .int .i64 (g k).t.ws, .string (g k).pr, .string (g k).dr] 75)).grownBy w2 (some w.heap.size)) → w2.ownsMap Try.prog 30 (plainElem Try.prog 4) w.heap.size (k + 1) (D.put (kl (g k).t) (.lit (.bool true))) → Below w.heap.size w w2 ∧ TM w.heap.size (k + 1) (fun i => (g i).t) w2) := ⟨fun w2 h1 h2 => by
        refine ⟨?_, TM.put (t := fun i => (g i).t) hD hat hok h2⟩
        exact below_grown (BB.out.alloc (by omega) _) (by simp; omega) h1 (fun B e => by cases e; exact Nat.le_refl _)⟩
      clear hc hb ho hD hat hok TT BB
      go_wp2_with (at_mapUpdate; refine wpList_mapUpdate_own _ (by rfl) _ _ _ 78 (by rfl) 30 4 Try.keyed30 Try.underlying78 _ w.heap.size k _ (by rfl) OWN.out (by unfold maxLen; omega) _ _ (kl (g k).t) (by rfl) (by rfl) KEY.out _ [] (plainElem_bool Try.underlying4 true) ?_; intro w2 hown2 hgrow2; have P2 := hidden (PUT.out w2 hgrow2 hown2); clear hown2 hgrow2)
      go_roundw
      case rel => exact ⟨k + 1, by omega, by go_num, P2.out.1, P2.out.2⟩
      case measure => simp [intOf]; omega
    · have e : n = k := by omega
      subst e
      clear hb htm
      go_wp2
      go_ret
      exact ⟨rfl, BB.out, TT.out⟩

end Go.Proofs.Qxb6605253a
