/-
  WALK: gpu.Unusable.
-/
import Derived.Test.Qxb6605253aG8
import Derived.Deep.AppendLies
import Derived.Deep.DeepCutAuto
namespace Go.Proofs.Qxb6605253a
open Go.RowKit Go.Maps
set_option linter.unusedVariables false
set_option linter.unusedSimpArgs false

/-- The cells of the first k targets. -/
def tcs (t : Nat → T3) : Nat → List Value
  | 0 => []
  | k + 1 => tcs t k ++ [.string (t k).be, .string (t k).ar, .int .i64 (t k).ws]

theorem tcs_len (t : Nat → T3) : ∀ k, (tcs t k).length = k * 3
  | 0 => rfl
  | k + 1 => by rw [tcs, List.length_append, tcs_len t k]; simp; omega

theorem tcs_get (t : Nat → T3) : ∀ k i j, i < k → j < 3 → (tcs t k)[i * 3 + j]? = some (tV t i j)
  | 0, i, j, h, _ => absurd h (Nat.not_lt_zero _)
  | k + 1, i, j, h, hj => by
    rw [tcs]
    by_cases e : i = k
    · subst e
      rw [List.getElem?_append_right (by rw [tcs_len]; omega), tcs_len, show i * 3 + j - i * 3 = j by omega]
      have hj3 : j = 0 ∨ j = 1 ∨ j = 2 := by omega
      rcases hj3 with rfl | rfl | rfl <;> rfl
    · rw [List.getElem?_append_left (by rw [tcs_len]; omega)]
      exact tcs_get t k i j (by omega) hj

theorem own_srow {w : World} {base n : Nat} {a : Option Addr} {c : Nat} {t : Nat → T3} (h : w.ownsRow base 30 3 (.slice a n c) n (tcs t n)) : SRow w w.heap.size a n 3 (tV t) := by
  obtain ⟨h1, h2 | ⟨g, cap, cur, hv, hb, hh, r1, r2, r3, r4⟩⟩ := h
  · exact .inl h2.2
  · have hv' : a = some ⟨g, 0, none⟩ ∧ c = cap := by simpa using hv
    obtain ⟨rfl, rfl⟩ := hv'
    refine .inr ⟨g, 0, rfl, (Array.getElem?_eq_some_iff.1 hh).1, fun i hi j hj => ?_⟩
    have hw : w.ownsRow base 30 3 (.slice (some ⟨g, 0, none⟩) n c) n (tcs t n) := ⟨h1, .inr ⟨g, c, cur, rfl, hb, hh, r1, r2, r3, r4⟩⟩
    rw [Nat.zero_add, hw.cellAt (i * 3 + j) (by omega)]
    exact tcs_get t n i j hi hj

theorem own_kept {w w' : World} {base n : Nat} {v : Value} {xs : List Value} (h : w.ownsRow base 30 3 v n xs) (ob : Obj) (e : w' = w.alloc ob) : w'.ownsRow base 30 3 v n xs := by rw [e]; exact h.alloc ob

theorem Try.info30 : (Try.prog.info? 30).map (fun i => (i.zero, i.size, i.bytes)) = some (some (.agg #[.string ⟨#[]⟩, .string ⟨#[]⟩, .int .i64 0]), 3, 40) := by kernel_rfl

theorem news3 (w : World) (v0 v1 v2 : Value) : ∀ j u, [v0, v1, v2][j]? = some u → (w.alloc (.cells #[v0, v1, v2] 30)).cell? ((⟨w.heap.size, 0, none⟩ : Addr).add j) = some u := by
  have r := World.rowIs_alloc w #[v0, v1, v2] 30 (fun i => ([v0, v1, v2][i]?).getD undef) (fun i hi => by
    have hi' : i < 3 := hi
    have : i = 0 ∨ i = 1 ∨ i = 2 := by omega
    rcases this with rfl | rfl | rfl <;> rfl)
  intro j u hu
  have hj : j < 3 := (List.getElem?_eq_some_iff.1 hu).1
  have := r.cell (i := j) hj
  rw [hu] at this
  rw [Go.WideShapes.add_plain, Nat.zero_add]
  exact this

theorem grown_of_below {w wr : World} {N : Nat} {row : Option Nat} (h : Below N w wr) (hN : w.heap.size ≤ N) : w.grownBy wr row := ⟨h.os, h.tape, h.output, h.size, fun k hk _ => h.block k (by omega)⟩

/-- What 'Unusable' answers. -/
def Ans (n nk : Nat) (t : Nat → T3) (q : Nat → K6) (s : ByteArray) : Prop :=
  (s = ⟨#[]⟩ ∧ ∀ i, i < nk → ∃ j, j < n ∧ t j = (q i).t) ∨ ∃ i, i < nk ∧ (∀ j, j < n → t j ≠ (q i).t) ∧ (∀ i', i' < i → ∃ j, j < n ∧ t j = (q i').t) ∧ Why n t (q i).t s

set_option maxRecDepth 100000 in
set_option maxHeartbeats 4000000 in
theorem unusable33 (ag ak af ar : Option Addr) (ng cg nk ck nf nr hi : Nat) (key : ByteArray) (single : Bool) (g : Nat → G6) (q : Nat → K6) (w : World) (hn : ng ≤ 4096) (hnk : nk ≤ 4096) (hhi : hi ≤ w.heap.size)
    (hr : SRow w hi ag ng 6 (gV g)) (hk : SRow w hi ak nk 6 (kV q)) (hok : ∀ i, i < ng → (g i).t.ok) (hokk : ∀ i, i < nk → (q i).t.ok) :
    Calls Try.prog 33 #[.slice ag ng cg, .agg #[.string key, .slice af nf nf, .slice ar nr nr, .bool single, .slice ak nk ck]] w fun e w' => (∃ s, e = .returned (.string s) ∧ Ans ng nk (fun i => (g i).t) q s) ∧ Below w.heap.size w w' := by
  have B0 := hidden ((Below.refl w.heap.size w).alloc (Nat.le_refl _) (.cells #[.string key, .slice af nf nf, .slice ar nr nr, .bool single, .slice ak nk ck] 66))
  have H41 := hidden (targetsOf41 ag ng cg hi g (w.alloc (.cells #[.string key, .slice af nf nf, .slice ar nr nr, .bool single, .slice ak nk ck] 66)) hn (by simp; omega) (hr.below B0.out hhi) hok)
  have CB : Hid ((w.alloc (.cells #[.string key, .slice af nf nf, .slice ar nr nr, .bool single, .slice ak nk ck] 66)).cell? ⟨w.heap.size, 4, none⟩ = some (.slice ak nk ck)) := ⟨by simp⟩
  have HG := hidden hr
  have HK := hidden hk
  have OKG := hidden hok
  have OKK := hidden hokk
  clear hr hk hok hokk
  go_enter Try.func33, Try.ntmps33
  go_wp2_with fail
  refine H41.out.mono ?_
  rintro e w1 ⟨rfl, hb1, htm⟩
  have hs1 : w.heap.size + 1 ≤ w1.heap.size := by have := hb1.size; simpa using this
  have B1 := hidden (B0.out.trans (hb1.mono (by simp)))
  have T1 : Hid (TM (w.heap.size + 1) ng (fun i => (g i).t) w1) := ⟨by have h := htm; simp only [World.alloc, Array.size_push] at h; exact h⟩
  have C1 : Hid (w1.cell? ⟨w.heap.size, 4, none⟩ = some (.slice ak nk ck)) := ⟨by rw [World.cell?_of_block (a := ⟨w.heap.size, 4, none⟩) (hb1.block w.heap.size (by simp))]; exact CB.out⟩
  clear hb1 htm H41 B0 CB
  go_wp2
  go_loopw [6, 15] (fun tv i wr => ∃ (k : Nat) (qa : Option Addr) (qc : Nat), k ≤ ng ∧ tv = .slice qa k qc ∧ i = .int .i64 k ∧ Below w1.heap.size w1 wr ∧ wr.ownsRow w1.heap.size 30 3 (.slice qa k qc) k (tcs (fun i => (g i).t) k)) (fun _ i _ => ng - (intOf i).toNat)
  case atStart => exact ⟨0, none, 0, Nat.zero_le _, rfl, rfl, Below.refl _ _, World.ownsRow_nil _ _ _ _⟩
  case round =>
    obtain ⟨k, qa, qc, hk, rfl, rfl, hb, hown⟩ := hrel
    have BB := hidden hb
    have OO := hidden hown
    by_cases hlt : k < ng
    · rcases HG.out.below (B1.out.trans (hb.mono B1.out.size)) hhi with h0 | ⟨b, o, rfl, hbh, hc⟩
      · omega
      have c0 : wr.cell? ⟨b, o + k * 6, none⟩ = some (.int .i64 (g k).ix) := hc k hlt 0 (by omega)
      have c1 : wr.cell? ⟨b, o + k * 6 + 1, none⟩ = some (.string (g k).t.be) := hc k hlt 1 (by omega)
      have c2 : wr.cell? ⟨b, o + k * 6 + 2, none⟩ = some (.string (g k).t.ar) := hc k hlt 2 (by omega)
      have c3 : wr.cell? ⟨b, o + k * 6 + 3, none⟩ = some (.int .i64 (g k).t.ws) := hc k hlt 3 (by omega)
      have c4 : wr.cell? ⟨b, o + k * 6 + 4, none⟩ = some (.string (g k).pr) := hc k hlt 4 (by omega)
      have c5 : wr.cell? ⟨b, o + k * 6 + 5, none⟩ = some (.string (g k).dr) := hc k hlt 5 (by omega)
      obtain ⟨o1, ho1⟩ : ∃ o1 : Obj, o1 = .cells #[.int .i64 (g k).ix, .string (g k).t.be, .string (g k).t.ar, .int .i64 (g k).t.ws, .string (g k).pr, .string (g k).dr] 75 := ⟨_, rfl⟩
      obtain ⟨o2, ho2⟩ : ∃ o2 : Obj, o2 = .cells #[.string (g k).t.be, .string (g k).t.ar, .int .i64 (g k).t.ws] 30 := ⟨_, rfl⟩
      have OWN := hidden ((hown.alloc o1).alloc o2)
      have HN := hidden (news3 (wr.alloc o1) (.string (g k).t.be) (.string (g k).t.ar) (.int .i64 (g k).t.ws))
      have hsz : w1.heap.size ≤ wr.heap.size := hb.size
      have AD : Hid (∀ gg cap w2, w2.ownsRow w1.heap.size 30 3 (.slice (some ⟨gg, 0, none⟩) (k + 1) cap) (k + 1) (tcs (fun i => (g i).t) k ++ [.string (g k).t.be, .string (g k).t.ar, .int .i64 (g k).t.ws]) → ((wr.alloc o1).alloc o2).grownBy w2 (Value.slice qa k qc).ownBlock → Below w1.heap.size w1 w2 ∧ w2.ownsRow w1.heap.size 30 3 (.slice (some ⟨gg, 0, none⟩) (k + 1) cap) (k + 1) (tcs (fun i => (g i).t) (k + 1))) := ⟨fun gg cap w2 h1 h2 => ⟨below_grown ((BB.out.alloc hsz _).alloc (by simp; omega) _) (by simp; omega) h2 (fun B e => (World.ownsRow.lt OO.out B e).1), h1⟩⟩
      rw [ho1, ho2] at OWN AD
      rw [ho1] at HN
      obtain ⟨i30, hi30, hz0⟩ := Option.map_eq_some_iff.1 Try.info30
      simp only [Prod.mk.injEq] at hz0
      obtain ⟨hz1, hz2, hz3⟩ := hz0
      clear hc hb hown ho1 ho2
      go_upto_region 6 with fail
      go_wp2_with (at_builtin; refine wpList_append_lies _ (by rfl) (.tmp 19) (.tmp 22) 32 (by rfl) w1.heap.size 30 i30 _ 3 40 Try.underlying32 hi30 hz1 hz2 hz3 rfl (by omega) (.slice qa k qc) k (tcs (fun i => (g i).t) k) (by rfl) OWN.out ⟨wr.heap.size + 1, 0, none⟩ 1 1 [.string (g k).t.be, .string (g k).t.ar, .int .i64 (g k).t.ws] (by rfl) rfl (by have := HN.out; simpa using this) (by intro u hu; simp at hu; rcases hu with rfl | rfl | rfl <;> rfl) (by omega) (by unfold maxLen; omega) (by omega) (by simp; omega) (wr.heap.size + 2) (by simp) ?_; intro gg cap w2 hown2 hgrow2 hat2 hlt2; have P2 := hidden (AD.out gg cap w2 hown2 hgrow2); clear hown2 hgrow2 hat2 hlt2)
      go_roundw
      case rel => exact ⟨k + 1, _, _, by omega, rfl, by go_num, P2.out.1, P2.out.2⟩
      case measure => simp [intOf]; omega
    · have e : ng = k := by omega
      subst e
      obtain ⟨w2, hw2⟩ : ∃ w2 : World, w2 = wr := ⟨_, rfl⟩
      subst hw2
      have hs2 := hb.size
      have B2 := hidden (B1.out.trans (hb.mono B1.out.size))
      have ST := hidden (own_srow hown)
      have T2 := hidden (T1.out.kept (grown_of_below (row := none) hb (Nat.le_refl _)) (by simp))
      have K2 := hidden (HK.out.below B2.out hhi)
      have C2 : w2.cell? ⟨w.heap.size, 4, none⟩ = some (.slice ak nk ck) := by rw [World.cell?_of_block (a := ⟨w.heap.size, 4, none⟩) (hb.block w.heap.size (by omega))]; exact C1.out
      clear hb hown BB OO T1 C1 HG HK
      go_wp2
      go_loopw [28] (fun i wr => ∃ k : Nat, k ≤ nk ∧ i = .int .i64 k ∧ Below w2.heap.size w2 wr ∧ ∀ i, i < k → ∃ j, j < ng ∧ (g j).t = (q i).t) (fun i _ => nk - (intOf i).toNat)
      case atStart => exact ⟨0, Nat.zero_le _, rfl, Below.refl _ _, fun i h => absurd h (Nat.not_lt_zero _)⟩
      case round =>
        obtain ⟨k, hk, rfl, hb, hall⟩ := hrel
        have BB := hidden hb
        have AL := hidden hall
        clear C2
        by_cases hlt : k < nk
        · rcases K2.out.below hb (Nat.le_trans hhi B2.out.size) with h0 | ⟨b, o, rfl, hbh, hc⟩
          · omega
          have c0 : wr.cell? ⟨b, o + k * 6, none⟩ = some (.string (q k).en) := hc k hlt 0 (by omega)
          have c1 : wr.cell? ⟨b, o + k * 6 + 1, none⟩ = some (.string (q k).nm) := hc k hlt 1 (by omega)
          have c2 : wr.cell? ⟨b, o + k * 6 + 2, none⟩ = some (.string (q k).t.be) := hc k hlt 2 (by omega)
          have c3 : wr.cell? ⟨b, o + k * 6 + 3, none⟩ = some (.string (q k).t.ar) := hc k hlt 3 (by omega)
          have c4 : wr.cell? ⟨b, o + k * 6 + 4, none⟩ = some (.int .i64 (q k).t.ws) := hc k hlt 4 (by omega)
          have c5 : wr.cell? ⟨b, o + k * 6 + 5, none⟩ = some (.string (q k).tv) := hc k hlt 5 (by omega)
          obtain ⟨o1, ho1⟩ : ∃ o1 : Obj, o1 = .cells #[.string (q k).en, .string (q k).nm, .string (q k).t.be, .string (q k).t.ar, .int .i64 (q k).t.ws, .string (q k).tv] 77 := ⟨_, rfl⟩
          have B3 := hidden (hb.alloc hb.size o1)
          obtain ⟨bl, hbl, hlook⟩ := (T2.out.kept (grown_of_below (row := none) B3.out (Nat.le_refl _)) (by simp)).look (OKK.out k hlt)
          have IFF := hidden hbl
          have H38 := hidden (mismatch38 (q k).t qa ng qc w2.heap.size (fun i => (g i).t) (wr.alloc o1) hn B3.out.size (ST.out.below B3.out (Nat.le_refl _)))
          rw [ho1] at hlook B3 H38
          unfold T3.val at hlook H38
          clear hc hb hall hbl ho1
          cases bl
          · go_wp2_with fail
            refine H38.out.mono ?_
            rintro e w4 ⟨⟨s, rfl, hwhy⟩, hb4⟩
            have WY := hidden hwhy
            have B4 := hidden ((B2.out.trans (B3.out.mono B2.out.size)).trans (hb4.mono (Nat.le_trans B2.out.size B3.out.size)))
            have NO : Hid (∀ j, j < ng → (g j).t ≠ (q k).t) := ⟨fun j hj e => by have h := IFF.out.2 ⟨j, hj, e⟩; cases h⟩
            clear hwhy hb4
            go_wp2
            go_ret
            exact ⟨⟨s, rfl, .inr ⟨k, hlt, NO.out, AL.out, WY.out⟩⟩, B4.out⟩
          · have NX : Hid (∀ i, i < k + 1 → ∃ j, j < ng ∧ (g j).t = (q i).t) := ⟨fun i hi => by
              by_cases e : i = k
              · subst e; exact IFF.out.1 rfl
              · exact AL.out i (by omega)⟩
            go_wp2
            go_roundw
            case rel => exact ⟨k + 1, by omega, by go_num, B3.out, NX.out⟩
            case measure => simp [intOf]; omega
        · have e : nk = k := by omega
          subst e
          have B4 := hidden (B2.out.trans (hb.mono B2.out.size))
          clear hb hall
          go_wp2
          go_ret
          exact ⟨⟨_, rfl, .inl ⟨rfl, AL.out⟩⟩, B4.out⟩

end Go.Proofs.Qxb6605253a
