/-
  WALKS: zb1Has, zb1FirstOff, zb1Reason.
-/
import Derived.Test.Qxb6605253aG3
import Derived.Deep.QuietTactic
import Derived.BigQuiet
import Derived.Deep.RegionHeld3
import Derived.Laws.StructEq
namespace Go.Proofs.Qxb6605253a
open Go.RowKit
set_option linter.unusedVariables false
set_option linter.unusedSimpArgs false

theorem Try.stood23 : Try.prog.stoodInHeld 23 = false := by kernel_rfl
theorem Try.guard23 : Try.prog.eqGuardType Try.prog.depth 23 = false := by kernel_rfl

theorem eql23 (b1 a1 : ByteArray) (s1 : Int) (b2 a2 : ByteArray) (s2 : Int) (w : World) : (binOp .eql 23 (.agg #[.string b1, .string a1, .int .i64 s1]) (.agg #[.string b2, .string a2, .int .i64 s2])).run Try.prog w = .ok (.bool ((b1.toList == b2.toList) && (a1.toList == a2.toList) && (s1 == s2))) w := by
  have hf : Try.prog.underlying 23 = some (.struct (Try.prog.fieldsOf 23)) := by simp [Program.fieldsOf, Try.underlying23]
  rw [run_eql_struct, run_equalIn_agg w 9999 23 _ _ hf Try.stood23]
  rw [show (Try.prog.fieldsOf 23).toList = [⟨"Backend", 9, 0, false, "", "", 0⟩, ⟨"Arch", 9, 1, false, "", "", 16⟩, ⟨"WarpSize", 3, 2, false, "", "", 32⟩] by simp [Program.fieldsOf, Try.underlying23]]
  clear hf
  have p1 : ∀ (b a : ByteArray) (s : Int) (w : World), (part 9 #[Value.string b, Value.string a, Value.int IntKind.i64 s] 0).run Try.prog w = .ok (.string b) w := fun b a s w => by go_simp
  have p2 : ∀ (b a : ByteArray) (s : Int) (w : World), (part 9 #[Value.string b, Value.string a, Value.int IntKind.i64 s] 1).run Try.prog w = .ok (.string a) w := fun b a s w => by go_simp
  have p3 : ∀ (b a : ByteArray) (s : Int) (w : World), (part 3 #[Value.string b, Value.string a, Value.int IntKind.i64 s] 2).run Try.prog w = .ok (.int .i64 s) w := fun b a s w => by go_simp
  have q1 : ∀ (a b : ByteArray) (w : World), (Op.equalIn 9999 9 (.string a) (.string b)).run Try.prog w = .ok (a.toList == b.toList) w := fun a b w => run_equalIn_string w 9998 9 a b Try.underlying9
  have q2 : ∀ (a b : Int) (w : World), (Op.equalIn 9999 3 (.int .i64 a) (.int .i64 b)).run Try.prog w = .ok (a == b) w := fun a b w => run_equalIn_int w 9998 3 .i64 .i64 a b Try.underlying3
  cases h1 : (b1.toList == b2.toList) <;> cases h2 : (a1.toList == a2.toList) <;> cases h3 : (s1 == s2) <;> simp [Op.eqFields, p1, p2, p3, q1, q2, h1, h2, h3]

theorem eql_same (t : T3) (w : World) : (binOp .eql 23 (.agg #[.string t.be, .string t.ar, .int .i64 t.ws]) (.agg #[.string t.be, .string t.ar, .int .i64 t.ws])).run Try.prog w = .ok (.bool true) w := by
  rw [eql23]; simp

theorem eql_other {t x : T3} (h : t ≠ x) (w : World) : (binOp .eql 23 (.agg #[.string t.be, .string t.ar, .int .i64 t.ws]) (.agg #[.string x.be, .string x.ar, .int .i64 x.ws])).run Try.prog w = .ok (.bool false) w := by
  rw [eql23]
  obtain ⟨b1, a1, s1⟩ := t
  obtain ⟨b2, a2, s2⟩ := x
  by_cases h1 : b1 = b2
  · by_cases h2 : a1 = a2
    · by_cases h3 : s1 = s2
      · subst h1; subst h2; subst h3; exact absurd rfl h
      · simp [h3]
    · simp [bytes_ne h2]
  · simp [bytes_ne h1]

theorem below_drewN {N : Nat} {w wr : World} (h : Below N w wr) (k : Nat) : Below N w (wr.drewN k) := by
  induction k with
  | zero => exact h
  | succ k ih => exact (⟨ih.os, ih.tape, ih.output, ih.size, ih.block⟩ : Below N w (wr.drewN k).drew)

set_option maxRecDepth 100000 in
set_option maxHeartbeats 1000000 in
theorem has42 (a : Option Addr) (n c hi : Nat) (t : Nat → T3) (x : T3) (w : World) (hn : n ≤ 4096) (hhi : hi ≤ w.heap.size) (hr : SRow w hi a n 3 (tV t)) :
    Calls Try.prog 42 #[.slice a n c, x.val] w fun e w' => (∃ b : Bool, e = .returned (.bool b) ∧ (b = true ↔ ∃ i, i < n ∧ t i = x)) ∧ Below w.heap.size w w' := by
  have HR := hidden hr
  clear hr
  unfold T3.val
  go_enter Try.func42, Try.ntmps42
  go_wp2
  go_loopw [5] (fun i wr => ∃ k : Nat, k ≤ n ∧ i = .int .i64 k ∧ Below w.heap.size w wr ∧ (wr.cell? ⟨w.heap.size, 0, none⟩ = some (.string x.be) ∧ wr.cell? ⟨w.heap.size, 1, none⟩ = some (.string x.ar) ∧ wr.cell? ⟨w.heap.size, 2, none⟩ = some (.int .i64 x.ws)) ∧ ∀ j, j < k → t j ≠ x) (fun i _ => n - (intOf i).toNat)
  case atStart => exact ⟨0, Nat.zero_le _, rfl, (Below.refl _ _).alloc (Nat.le_refl _) _, ⟨by simp, by simp, by simp⟩, fun j h => absurd h (Nat.not_lt_zero _)⟩
  case round =>
    obtain ⟨k, hk, rfl, hb, ⟨x0, x1, x2⟩, hno⟩ := hrel
    have BB := hidden hb
    have NO := hidden hno
    have X := hidden (And.intro x0 (And.intro x1 x2))
    by_cases hlt : k < n
    · rcases HR.out.below hb hhi with h0 | ⟨b, o, rfl, hbh, hc⟩
      · omega
      have c0 : wr.cell? ⟨b, o + k * 3, none⟩ = some (.string (t k).be) := hc k hlt 0 (by omega)
      have c1 : wr.cell? ⟨b, o + k * 3 + 1, none⟩ = some (.string (t k).ar) := hc k hlt 1 (by omega)
      have c2 : wr.cell? ⟨b, o + k * 3 + 2, none⟩ = some (.int .i64 (t k).ws) := hc k hlt 2 (by omega)
      clear hc hb hno
      have hgd := Try.guard23
      by_cases htx : t k = x
      · have heq := eql_same x
        rw [htx] at c0 c1 c2
        have HT := hidden htx
        clear htx
        go_wp2
        go_quiet (fail)
        go_wp2
        go_ret
        exact ⟨⟨true, rfl, fun _ => ⟨k, hlt, HT.out⟩, fun _ => rfl⟩, below_drewN BB.out _⟩
      · have heq := eql_other htx
        have NX : Hid (∀ j, j < k + 1 → t j ≠ x) := ⟨fun j hj => by
          by_cases e : j = k
          · subst e; exact htx
          · exact NO.out j (by omega)⟩
        clear htx
        go_wp2
        go_quiet (fail)
        go_wp2
        go_roundw
        case rel => exact ⟨k + 1, by omega, by go_num, below_drewN BB.out _, by have := X.out; simpa using this, NX.out⟩
        case measure => simp [intOf]; omega
    · have e : n = k := by omega
      subst e
      clear hb hno x0 x1 x2
      go_wp2
      go_ret
      exact ⟨⟨false, rfl, fun h => (by cases h), fun ⟨i, h1, h2⟩ => absurd h2 (NO.out i h1)⟩, BB.out⟩

/-- What 'zb1FirstOff' answers. -/
def Off (n nk : Nat) (t : Nat → T3) (q : Nat → K6) (r : Int) : Prop :=
  (r = -1 ∧ ∀ i, i < nk → ∃ j, j < n ∧ t j = (q i).t) ∨ ∃ i : Nat, i < nk ∧ r = (i : Int) ∧ (∀ j, j < n → t j ≠ (q i).t) ∧ ∀ i', i' < i → ∃ j, j < n ∧ t j = (q i').t

set_option maxRecDepth 100000 in
set_option maxHeartbeats 1000000 in
theorem firstOff35 (a ak : Option Addr) (n c nk ck hi : Nat) (t : Nat → T3) (q : Nat → K6) (w : World) (hn : n ≤ 4096) (hnk : nk ≤ 4096) (hhi : hi ≤ w.heap.size) (hr : SRow w hi a n 3 (tV t)) (hk : SRow w hi ak nk 6 (kV q)) :
    Calls Try.prog 35 #[.slice a n c, .slice ak nk ck] w fun e w' => (∃ r : Int, e = .returned (.int .i64 r) ∧ Off n nk t q r) ∧ Below w.heap.size w w' := by
  have HR := hidden hr
  have HK := hidden hk
  clear hr hk
  go_enter Try.func35, Try.ntmps35
  go_wp2
  go_loopw [5] (fun i wr => ∃ k : Nat, k ≤ nk ∧ i = .int .i64 k ∧ Below w.heap.size w wr ∧ ∀ i, i < k → ∃ j, j < n ∧ t j = (q i).t) (fun i _ => nk - (intOf i).toNat)
  case atStart => exact ⟨0, Nat.zero_le _, rfl, Below.refl _ _, fun i h => absurd h (Nat.not_lt_zero _)⟩
  case round =>
    obtain ⟨k, hkn, rfl, hb, hall⟩ := hrel
    have BB := hidden hb
    have AL := hidden hall
    by_cases hlt : k < nk
    · rcases HK.out.below hb hhi with h0 | ⟨b, o, rfl, hbh, hc⟩
      · omega
      have c0 : wr.cell? ⟨b, o + k * 6, none⟩ = some (.string (q k).en) := hc k hlt 0 (by omega)
      have c1 : wr.cell? ⟨b, o + k * 6 + 1, none⟩ = some (.string (q k).nm) := hc k hlt 1 (by omega)
      have c2 : wr.cell? ⟨b, o + k * 6 + 2, none⟩ = some (.string (q k).t.be) := hc k hlt 2 (by omega)
      have c3 : wr.cell? ⟨b, o + k * 6 + 3, none⟩ = some (.string (q k).t.ar) := hc k hlt 3 (by omega)
      have c4 : wr.cell? ⟨b, o + k * 6 + 4, none⟩ = some (.int .i64 (q k).t.ws) := hc k hlt 4 (by omega)
      have c5 : wr.cell? ⟨b, o + k * 6 + 5, none⟩ = some (.string (q k).tv) := hc k hlt 5 (by omega)
      clear hc hb hall
      go_wp2_with fail
      refine (tofK _ _ _ _ _ _ _).mono ?_
      rintro e w2 ⟨rfl, h2⟩
      have B2 := hidden (Below.two BB.out BB.out.size h2)
      have H42 := hidden (has42 a n c hi t ⟨(q k).t.be, (q k).t.ar, (q k).t.ws⟩ w2 hn (Nat.le_trans hhi B2.out.size) (HR.out.below B2.out hhi))
      clear h2
      go_wp2_with fail
      refine H42.out.mono ?_
      rintro e w3 ⟨⟨b2, rfl, hiff⟩, hb3⟩
      have B3 := hidden (B2.out.trans (hb3.mono B2.out.size))
      have IFF := hidden hiff
      clear hb3 hiff H42
      cases b2
      · have RR : Hid (Off n nk t q k) := ⟨.inr ⟨k, hlt, rfl, fun j hj e => (by have h := IFF.out.2 ⟨j, hj, e⟩; cases h), AL.out⟩⟩
        go_wp2
        go_ret
        exact ⟨⟨k, rfl, RR.out⟩, B3.out⟩
      · have NX : Hid (∀ i, i < k + 1 → ∃ j, j < n ∧ t j = (q i).t) := ⟨fun i hi => by
          by_cases e : i = k
          · subst e; exact IFF.out.1 rfl
          · exact AL.out i (by omega)⟩
        go_wp2
        go_roundw
        case rel => exact ⟨k + 1, by omega, by go_num, B3.out, NX.out⟩
        case measure => simp [intOf]; omega
    · have e : nk = k := by omega
      subst e
      clear hb hall
      go_wp2
      go_ret
      exact ⟨⟨-1, rfl, .inl ⟨rfl, AL.out⟩⟩, BB.out⟩

def bm : ByteArray := ⟨#[98, 97, 99, 107, 101, 110, 100, 45, 109, 105, 115, 109, 97, 116, 99, 104]⟩
def am : ByteArray := ⟨#[97, 114, 99, 104, 45, 109, 105, 115, 109, 97, 116, 99, 104]⟩
def wm : ByteArray := ⟨#[119, 97, 114, 112, 45, 115, 105, 122, 101, 45, 109, 105, 115, 109, 97, 116, 99, 104]⟩

/-- Why x is none of the first n. -/
def Why (n : Nat) (t : Nat → T3) (x : T3) (s : ByteArray) : Prop :=
  (s = wm ∧ ∃ j, j < n ∧ (t j).be = x.be ∧ (t j).ar = x.ar) ∨ (s = am ∧ (∃ j, j < n ∧ (t j).be = x.be) ∧ ∀ j, j < n → ¬ ((t j).be = x.be ∧ (t j).ar = x.ar)) ∨ (s = bm ∧ ∀ j, j < n → (t j).be ≠ x.be)

theorem Why.unique {n : Nat} {t : Nat → T3} {x : T3} {s s' : ByteArray} (h : Why n t x s) (h' : Why n t x s') : s = s' := by
  rcases h with ⟨rfl, j, h1, h2, h3⟩ | ⟨rfl, ⟨j, h1, h2⟩, h3⟩ | ⟨rfl, h1⟩ <;> rcases h' with ⟨rfl, j', g1, g2, g3⟩ | ⟨rfl, ⟨j', g1, g2⟩, g3⟩ | ⟨rfl, g1⟩
  · rfl
  · exact absurd ⟨h2, h3⟩ (g3 j h1)
  · exact absurd h2 (g1 j h1)
  · exact absurd ⟨g2, g3⟩ (h3 j' g1)
  · rfl
  · exact absurd h2 (g1 j h1)
  · exact absurd g2 (h1 j' g1)
  · exact absurd g2 (h1 j' g1)
  · rfl

theorem agree_le (o t : T3) : agree o t ≤ 3 := by unfold agree; split <;> (try split) <;> (try split) <;> omega
theorem agree_zero {o t : T3} (h : agree o t = 0) : o.be ≠ t.be := by
  intro e; unfold agree at h; rw [if_neg (by simp [e])] at h
  split at h
  · omega
  · split at h <;> omega
theorem agree_pos {o t : T3} (h : 0 < agree o t) : o.be = t.be := Classical.byContradiction fun e => by
  unfold agree at h; rw [if_pos e] at h; omega
theorem agree_two {o t : T3} (h : 1 < agree o t) : o.ar = t.ar := Classical.byContradiction fun e => by
  unfold agree at h; rw [if_pos e] at h; split at h <;> omega
theorem agree_one {o t : T3} (h : agree o t ≤ 1) : ¬ (o.be = t.be ∧ o.ar = t.ar) := fun ⟨e1, e2⟩ => by
  unfold agree at h; rw [if_neg (by simp [e1]), if_neg (by simp [e2])] at h; split at h <;> omega

theorem why_best {n m : Nat} {t : Nat → T3} {x : T3} (h1 : ∀ j, j < n → agree (t j) x ≤ m) (h2 : m = 0 ∨ ∃ j, j < n ∧ agree (t j) x = m) : Why n t x (if m = 0 then bm else if m = 1 then am else wm) := by
  by_cases e0 : m = 0
  · rw [if_pos e0]
    exact .inr (.inr ⟨rfl, fun j hj => agree_zero (by have := h1 j hj; omega)⟩)
  · rw [if_neg e0]
    obtain ⟨j, hj, he⟩ := h2.resolve_left e0
    by_cases e1 : m = 1
    · rw [if_pos e1]
      exact .inr (.inl ⟨rfl, ⟨j, hj, agree_pos (by omega)⟩, fun j' hj' => agree_one (by have := h1 j' hj'; omega)⟩)
    · rw [if_neg e1]
      exact .inl ⟨rfl, j, hj, agree_pos (by omega), agree_two (by omega)⟩

theorem agree39' (b1 a1 : ByteArray) (s1 : Int) (b2 a2 : ByteArray) (s2 : Int) (w : World) :
    Calls Try.prog 39 #[.agg #[.string b1, .string a1, .int .i64 s1], .agg #[.string b2, .string a2, .int .i64 s2]] w fun e w' => e = .returned (.int .i64 ((agree ⟨b1, a1, s1⟩ ⟨b2, a2, s2⟩ : Nat) : Int)) ∧ Two w w' := agree39 ⟨b1, a1, s1⟩ ⟨b2, a2, s2⟩ w

set_option maxRecDepth 100000 in
set_option maxHeartbeats 4000000 in
theorem reason15 (a : Option Addr) (n c hi : Nat) (t : Nat → T3) (x : T3) (w : World) (hn : n ≤ 4096) (hhi : hi ≤ w.heap.size) (hr : SRow w hi a n 3 (tV t)) :
    Calls Try.prog 15 #[x.val, .slice a n c] w fun e w' => (∃ s, e = .returned (.string s) ∧ Why n t x s) ∧ Below w.heap.size w w' := by
  have HR := hidden hr
  clear hr
  unfold T3.val
  go_enter Try.func15, Try.ntmps15
  go_wp2
  go_loopw [5, 6] (fun mv i wr => ∃ k m : Nat, k ≤ n ∧ mv = .int .i64 m ∧ i = .int .i64 k ∧ Below w.heap.size w wr ∧ w.heap.size < wr.heap.size ∧ (wr.cell? ⟨w.heap.size, 0, none⟩ = some (.string x.be) ∧ wr.cell? ⟨w.heap.size, 1, none⟩ = some (.string x.ar) ∧ wr.cell? ⟨w.heap.size, 2, none⟩ = some (.int .i64 x.ws)) ∧ (∀ j, j < k → agree (t j) x ≤ m) ∧ (m = 0 ∨ ∃ j, j < k ∧ agree (t j) x = m)) (fun _ i _ => n - (intOf i).toNat)
  case atStart => exact ⟨0, 0, Nat.zero_le _, rfl, rfl, (Below.refl _ _).alloc (Nat.le_refl _) _, by simp, ⟨by simp, by simp, by simp⟩, fun j h => absurd h (Nat.not_lt_zero _), .inl rfl⟩
  case round =>
    obtain ⟨k, m, hk, rfl, rfl, hb, hsz, ⟨x0, x1, x2⟩, hm1, hm2⟩ := hrel
    have BB := hidden hb
    have M1 := hidden hm1
    have M2 := hidden hm2
    by_cases hlt : k < n
    · rcases HR.out.below hb hhi with h0 | ⟨b, o, rfl, hbh, hc⟩
      · omega
      have c0 : wr.cell? ⟨b, o + k * 3, none⟩ = some (.string (t k).be) := hc k hlt 0 (by omega)
      have c1 : wr.cell? ⟨b, o + k * 3 + 1, none⟩ = some (.string (t k).ar) := hc k hlt 1 (by omega)
      have c2 : wr.cell? ⟨b, o + k * 3 + 2, none⟩ = some (.int .i64 (t k).ws) := hc k hlt 2 (by omega)
      have hag := agree_le (t k) x
      have hmm : m ≤ 3 := by
        rcases M2.out with e | ⟨j, _, e⟩
        · omega
        · have := agree_le (t j) x; omega
      have STEP : Hid (∀ w2, Two wr.drew w2 → Below w.heap.size w w2 ∧ w.heap.size < w2.heap.size ∧ (w2.cell? ⟨w.heap.size, 0, none⟩ = some (.string x.be) ∧ w2.cell? ⟨w.heap.size, 1, none⟩ = some (.string x.ar) ∧ w2.cell? ⟨w.heap.size, 2, none⟩ = some (.int .i64 x.ws)) ∧ (w2.cell? ⟨b, o + k * 3, none⟩ = some (.string (t k).be) ∧ w2.cell? ⟨b, o + k * 3 + 1, none⟩ = some (.string (t k).ar) ∧ w2.cell? ⟨b, o + k * 3 + 2, none⟩ = some (.int .i64 (t k).ws))) := ⟨fun w2 h2 => by
        have hbw : b < wr.heap.size := by have := BB.out.size; omega
        have g1 := Below.two (Below.refl wr.heap.size wr.drew) (Nat.le_refl _) h2
        have g2 := Below.two (below_drewN BB.out 1) (BB.out.size) h2
        have e1 : w2.heap[w.heap.size]? = wr.heap[w.heap.size]? := g1.block _ hsz
        have e2 : w2.heap[b]? = wr.heap[b]? := g1.block _ hbw
        refine ⟨g2, Nat.lt_of_lt_of_le hsz g1.size, ⟨?_, ?_, ?_⟩, ?_, ?_, ?_⟩
        · rw [World.cell?_of_block (a := ⟨w.heap.size, 0, none⟩) e1]; exact x0
        · rw [World.cell?_of_block (a := ⟨w.heap.size, 1, none⟩) e1]; exact x1
        · rw [World.cell?_of_block (a := ⟨w.heap.size, 2, none⟩) e1]; exact x2
        · rw [World.cell?_of_block (a := ⟨b, o + k * 3, none⟩) e2]; exact c0
        · rw [World.cell?_of_block (a := ⟨b, o + k * 3 + 1, none⟩) e2]; exact c1
        · rw [World.cell?_of_block (a := ⟨b, o + k * 3 + 2, none⟩) e2]; exact c2⟩
      clear hc hb hm1 hm2
      go_wp2_with fail
      go_region_held3 (fun w' => w'.cell? ⟨b, o + k * 3, none⟩ = some (.string (t k).be) ∧ w'.cell? ⟨b, o + k * 3 + 1, none⟩ = some (.string (t k).ar) ∧ w'.cell? ⟨b, o + k * 3 + 2, none⟩ = some (.int .i64 (t k).ws) ∧ w'.cell? ⟨w.heap.size, 0, none⟩ = some (.string x.be) ∧ w'.cell? ⟨w.heap.size, 1, none⟩ = some (.string x.ar) ∧ w'.cell? ⟨w.heap.size, 2, none⟩ = some (.int .i64 x.ws)) (go_keep)
        (first | (go_at_call 39; refine (agree39' _ _ _ _ _ _ _).mono ?_; rintro e w2 ⟨rfl, h2⟩; obtain ⟨g1, g2, ⟨y0, y1, y2⟩, d0, d1, d2⟩ := STEP.out _ h2; have G1 := hidden g1; clear h2 g1))
      have N0 : Hid (∀ m', m ≤ m' → agree (t k) x ≤ m' → ∀ j, j < k + 1 → agree (t j) x ≤ m') := ⟨fun m' e1 e2 j hj => by
        by_cases e : j = k
        · subst e; exact e2
        · have := M1.out j (by omega); omega⟩
      have Y := hidden (And.intro y0 (And.intro y1 y2))
      obtain ⟨z, hz⟩ : ∃ z, z = agree (t k) x := ⟨_, rfl⟩
      have HZ := hidden hz
      rw [show agree ⟨(t k).be, (t k).ar, (t k).ws⟩ ⟨x.be, x.ar, x.ws⟩ = z from hz.symm]
      rw [← hz] at N0 hag
      clear hz STEP x0 x1 x2 c0 c1 c2 y0 y1 y2 d0 d1 d2
      by_cases hgt : m < z
      · have NX : Hid ((∀ j, j < k + 1 → agree (t j) x ≤ z) ∧ (z = 0 ∨ ∃ j, j < k + 1 ∧ agree (t j) x = z)) := ⟨⟨N0.out z (by omega) (by omega), .inr ⟨k, by omega, HZ.out.symm⟩⟩⟩
        go_wp2
        go_roundw
        case rel => exact ⟨k + 1, z, by omega, rfl, by go_num, G1.out, g2, Y.out, NX.out⟩
        case measure => simp [intOf]; omega
      · have NX : Hid ((∀ j, j < k + 1 → agree (t j) x ≤ m) ∧ (m = 0 ∨ ∃ j, j < k + 1 ∧ agree (t j) x = m)) := ⟨⟨N0.out m (by omega) (by omega), by
          rcases M2.out with e | ⟨j, h1, h2⟩
          · exact .inl e
          · exact .inr ⟨j, by omega, h2⟩⟩⟩
        go_wp2
        go_roundw
        case rel => exact ⟨k + 1, m, by omega, rfl, by go_num, G1.out, g2, Y.out, NX.out⟩
        case measure => simp [intOf]; omega
    · have e : n = k := by omega
      subst e
      have WY := hidden (why_best M1.out M2.out)
      clear hb hm1 hm2 x0 x1 x2
      by_cases e0 : m = 0
      · subst e0
        go_wp2
        go_ret
        exact ⟨⟨_, rfl, WY.out⟩, BB.out⟩
      · have f0 : ((m : Int) == 0) = false := by rw [beq_eq_false_iff_ne]; omega
        by_cases e1 : m = 1
        · subst e1
          go_wp2
          go_ret
          exact ⟨⟨_, rfl, WY.out⟩, BB.out⟩
        · have f1 : ((m : Int) == 1) = false := by rw [beq_eq_false_iff_ne]; omega
          have WZ : Hid (Why n t x wm) := ⟨by have := WY.out; rwa [if_neg e0, if_neg e1] at this⟩
          go_wp2
          go_ret
          exact ⟨⟨_, rfl, WZ.out⟩, BB.out⟩

end Go.Proofs.Qxb6605253a
