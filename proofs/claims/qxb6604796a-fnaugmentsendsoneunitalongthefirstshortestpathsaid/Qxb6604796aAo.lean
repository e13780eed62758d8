/-
  WALK: 'augment'.
-/
import Derived.Test.Qxb6604796aAn
import Derived.Test.Qxb6604796aM2
namespace Go.Proofs.Qxb6604796a
open Go.RowKit Af
set_option linter.unusedVariables false

/-- The network's own facts. -/
structure Net (n M : Nat) (L : Nat → Nat) (arc : Nat → Nat → Nat) (hed : Nat → Nat) (sink : Nat) (l : Nat → Int) : Prop where
  even : M % 2 = 0
  tolt : ∀ a, a < M → hed a < n
  arclt : ∀ v, v < n → ∀ i, i < L v → arc v i < M
  tail : ∀ v, v < n → ∀ i, i < L v → hed (x (arc v i)) = v
  snk : sink < n
  nonneg : ∀ b, 0 ≤ l b
  pair : ∀ b, l b + l (x b) ≤ 127

/-- A set that is closed under arcs with capacity left, and without the sink. -/
structure Shut (L : Nat → Nat) (arc : Nat → Nat → Nat) (hed : Nat → Nat) (cap : Nat → Int) (sink : Nat) (V0 : Nat → Prop) : Prop where
  vs : ¬ V0 sink
  clo : ∀ v i, V0 v → i < L v → cap (arc v i) ≠ 0 → V0 (hed (arc v i))

/-- What 'augment' has done. -/
def Aug (n : Nat) (L : Nat → Nat) (arc : Nat → Nat → Nat) (hed : Nat → Nat) (sink ls : Nat) (st : Nat → Nat) (l l' : Nat → Int) (e : Ending) : Prop :=
  (e = .returned (.bool false) ∧ l' = l ∧ ∃ V0, Shut L arc hed l sink V0 ∧ ∀ i, i < ls → V0 (st i)) ∨
  (e = .returned (.bool true) ∧ ∃ k V0 d bs via', k < ls ∧ Shut L arc hed l sink V0 ∧ (∀ i, i < k → V0 (st i)) ∧ Trail n L arc hed l sink (st k) via' d 0 bs sink ∧ PushOk hed l bs ∧ l' = bs.foldl push1 l)

def AugRet (w : World) (N base R V n M Gb : Nat) (vt va : Value) (L : Nat → Nat) (arc : Nat → Nat → Nat) (hed : Nat → Nat) (sink ls : Nat) (st : Nat → Nat) (l : Nat → Int) (e : Ending) (w' : World) : Prop :=
  ∃ via l' fq q, AS w N base R V n M Gb vt va via l' fq fq q w' ∧ Aug n L arc hed sink ls st l l' e

/-- Between the searches. -/
def A2 (w : World) (N base R V n M Gb : Nat) (vt va : Value) (L : Nat → Nat) (arc : Nat → Nat → Nat) (hed : Nat → Nat) (sink : Nat) (st : Nat → Nat) (l : Nat → Int) (k : Nat) (wr : World) : Prop :=
  ∃ via fq q V0, AS w N base R V n M Gb vt va via l fq fq q wr ∧ (∀ u, u < n → (via u ≠ -1 ↔ V0 u)) ∧ Shut L arc hed l sink V0 ∧ ∀ i, i < k → V0 (st i)

/-- Within a search. -/
def A4 (w : World) (N base R V n M Gb : Nat) (vt va : Value) (L : Nat → Nat) (arc : Nat → Nat → Nat) (hed : Nat → Nat) (sink s : Nat) (V0 : Nat → Prop) (l : Nat → Int) (i j : Nat) (qv : Value) (q : List Nat) (wr : World) : Prop :=
  ∃ via dep fq, AS w N base R V n M Gb vt va via l fq qv q wr ∧ Bf n L arc hed l sink s V0 via dep (qf q) q.length i j

section
variable {w : World} {N base R V n M Gb : Nat} {vt va : Value} {L : Nat → Nat} {arc : Nat → Nat → Nat} {hed : Nat → Nat} {sink s : Nat} {V0 : Nat → Prop} {l : Nat → Int} {i j : Nat} {qv : Value} {q : List Nat} {wr : World} {st : Nat → Nat} {k : Nat}

theorem A2.start {via : Nat → Int} {fq : Value} (h : AS w N base R V n M Gb vt va via l fq fq q wr) (hv : ∀ u, u < n → via u = -1) : A2 w N base R V n M Gb vt va L arc hed sink st l 0 wr :=
  ⟨via, fq, q, fun _ => False, h, fun u hu => ⟨fun g => g (hv u hu), fun g => g.elim⟩, ⟨id, fun _ _ g => g.elim⟩, fun _ g => absurd g (Nat.not_lt_zero _)⟩

theorem AS.both {via : Nat → Int} {fq : Value} (h : AS w N base R V n M Gb vt va via l fq qv q wr) (u : Nat) (c : Int) (ob : Obj) : AS w N base R V n M Gb vt va (fun i => if i = u then c else via i) l fq qv q ((wr.setCell ⟨V, u, none⟩ (.int .i64 c)).alloc ob) := by
  have h1 := h.mark u c
  exact h1.grow (World.grownBy_alloc _ ob none) (fun _ e => by cases e) (own_same h1.own fun g hg => by
    have := own_lt h1.own hg
    exact (World.grownBy_alloc _ ob none).block g this.2 (fun e => by cases e))

theorem A4.begin {via : Nat → Int} {a : Option Addr} {c g cap : Nat} {w2 : World} (h : AS w N base R V n M Gb vt va via l (.slice a q.length c) (.slice a q.length c) q wr) (hv : ∀ u, u < n → (via u ≠ -1 ↔ V0 u)) (sh : Shut L arc hed l sink V0) (hs : s < n) (hsk : s ≠ sink) (hvs : via s = -1) (ob : Obj)
    (hgrow : ((wr.setCell ⟨V, s, none⟩ (.int .i64 (-2))).alloc ob).grownBy w2 (Value.slice a 0 c).ownBlock) (hown : w2.ownsRow base 3 1 (.slice (some ⟨g, 0, none⟩) (0 + 1) cap) (0 + 1) ([] ++ [.int .i64 (s : Int)])) :
    A4 w N base R V n M Gb vt va L arc hed sink s V0 l 0 0 (.slice (some ⟨g, 0, none⟩) 1 cap) [s] w2 := by
  have h1 := h.mark s (-2)
  have h2 := h1.grow (World.grownBy_alloc _ ob none) (fun _ e => by cases e) (own_same h1.own fun g hg => by
    have := own_lt h1.own hg
    exact (World.grownBy_alloc _ ob none).block g this.2 (fun e => by cases e))
  have h3 := h2.grow hgrow (fun X e => (own_lt (own_empty h2.own) e).1) (qv' := .slice (some ⟨g, 0, none⟩) 1 cap) (q' := [s]) hown
  refine ⟨_, fun _ => 0, _, h3, ?_⟩
  have := @Bf.start n L arc hed l sink s V0 via hs hsk (fun g => (hv s hs).2 g hvs) hv sh.vs sh.clo
  have e : Bf n L arc hed l sink s V0 (fun u => if u = s then -2 else via u) (fun _ => 0) (qf [s]) 1 0 0 := by
    refine ⟨this.pos, ?_, rfl, fun p q hp hq _ => by omega, fun u hu => ?_, ?_, ?_, this.vs, this.clo0, this.via0, this.dep0, ?_, fun _ _ _ _ => Nat.le_refl _, fun _ _ _ => by omega, fun p hp => absurd hp (Nat.not_lt_zero _), fun _ l hl => absurd hl (Nat.not_lt_zero _), fun d _ q k _ _ g => by omega⟩
    · intro q hq; have : q = 0 := by omega
      subst this; exact hs
    · rw [this.vis u hu]
      constructor
      · rintro (g | ⟨q, _, e⟩)
        · exact .inl g
        · exact .inr ⟨0, by omega, e⟩
      · rintro (g | ⟨q, hq, e⟩)
        · exact .inl g
        · have : q = 0 := by omega
          subst this; exact .inr ⟨0, by omega, e⟩
    · intro q hq; have e : q = 0 := by omega
      subst e; exact this.disj 0 (by omega)
    · intro q hq; have : q = 0 := by omega
      subst this; exact hsk
    · intro q hq g; have : q = 0 := by omega
      subst this; exact absurd rfl g
  exact e

theorem A4.add {via : Nat → Int} {dep : Nat → Nat} {fq : Value} {a : Option Addr} {c g cap b : Nat} {w2 : World} (net : Net n M L arc hed sink l) (h : AS w N base R V n M Gb vt va via l fq (.slice a q.length c) q wr) (hb : Bf n L arc hed l sink s V0 via dep (qf q) q.length i j) (hi : i < q.length) (hj : j < L (qf q i)) (he : arc (qf q i) j = b) (hc : l b ≠ 0) (hv : via (hed b) = -1) (hsk : hed b ≠ sink) (ob : Obj)
    (hgrow : ((wr.setCell ⟨V, hed b, none⟩ (.int .i64 (b : Int))).alloc ob).grownBy w2 (Value.slice a q.length c).ownBlock) (hown : w2.ownsRow base 3 1 (.slice (some ⟨g, 0, none⟩) (q.length + 1) cap) (q.length + 1) (ints q ++ [.int .i64 ((hed b : Nat) : Int)])) :
    A4 w N base R V n M Gb vt va L arc hed sink s V0 l i (j + 1) (.slice (some ⟨g, 0, none⟩) (q.length + 1) cap) (q ++ [hed b]) w2 := by
  have h1 := h.mark (hed b) b
  have h2 := h1.grow (World.grownBy_alloc _ ob none) (fun _ e => by cases e) (own_same h1.own fun g hg => by
    have := own_lt h1.own hg
    exact (World.grownBy_alloc _ ob none).block g this.2 (fun e => by cases e))
  have h3 := h2.grow hgrow (fun X e => (own_lt h2.own e).1) (qv' := .slice (some ⟨g, 0, none⟩) (q.length + 1) cap) (q' := q ++ [hed b]) (by rw [List.length_append, ints_append]; exact hown)
  have hvn := hb.lt i hi
  subst he
  have key := hb.add hi hj (net.tolt _ (net.arclt _ hvn j hj)) hc hv hsk (net.tail _ hvn j hj)
  rw [← qf_append] at key
  refine ⟨_, fun u => if u = hed (arc (qf q i) j) then dep (qf q i) + 1 else dep u, _, h3, ?_⟩
  rw [List.length_append]
  exact key

theorem A2.over {a : Option Addr} {c : Nat} (h : A4 w N base R V n M Gb vt va L arc hed sink s V0 l q.length 0 (.slice a q.length c) q wr) (hs : s = st k) (hb : ∀ i, i < k → V0 (st i)) : A2 w N base R V n M Gb vt va L arc hed sink st l (k + 1) (wr.setCell ⟨R, 6, none⟩ (.slice a q.length c)) := by
  obtain ⟨via, dep, fq, hA, hB⟩ := h
  obtain ⟨o1, o2⟩ := hB.over
  refine ⟨via, _, q, fun u => V0 u ∨ ∃ p, p < q.length ∧ qf q p = u, hA.keep _, hB.vis, ⟨o2, o1⟩, fun i hi => ?_⟩
  by_cases e : i = k
  · subst e; exact .inr ⟨0, hB.pos, by rw [hB.first0, hs]⟩
  · exact .inl (hb i (by omega))

theorem A4.drewN (h : A4 w N base R V n M Gb vt va L arc hed sink s V0 l i j qv q wr) (k : Nat) : A4 w N base R V n M Gb vt va L arc hed sink s V0 l i j qv q (wr.drewN k) := by
  obtain ⟨via, dep, fq, hA, hB⟩ := h
  exact ⟨via, dep, fq, hA.drewN k, hB⟩

theorem A4.skip (h : A4 w N base R V n M Gb vt va L arc hed sink s V0 l i j qv q wr) {via : Nat → Int} {dep : Nat → Nat} {fq : Value} (hA : AS w N base R V n M Gb vt va via l fq qv q wr) (hB : Bf n L arc hed l sink s V0 via dep (qf q) q.length i j) (hi : i < q.length) (hlt : hed (arc (qf q i) j) < n) (hx : l (arc (qf q i) j) = 0 ∨ via (hed (arc (qf q i) j)) ≠ -1) : A4 w N base R V n M Gb vt va L arc hed sink s V0 l i (j + 1) qv q wr :=
  ⟨via, dep, fq, hA, hB.skip hi hlt hx⟩

theorem A4.next (h : A4 w N base R V n M Gb vt va L arc hed sink s V0 l i j qv q wr) (hi : i < q.length) (hj : L (qf q i) ≤ j) : A4 w N base R V n M Gb vt va L arc hed sink s V0 l (i + 1) 0 qv q wr := by
  obtain ⟨via, dep, fq, hA, hB⟩ := h
  exact ⟨via, dep, fq, hA, hB.next hi hj⟩

theorem qf_keep {q : List Nat} {u i : Nat} (h : i < q.length) : qf (q ++ [u]) i = qf q i := by
  rw [qf_append]; exact if_neg (by omega)

/-- While the unit is sent. -/
def A5 (w : World) (N base R V n M Gb : Nat) (vt va : Value) (hed : Nat → Nat) (l : Nat → Int) (via : Nat → Int) (fq qv : Value) (q : List Nat) (fin : Nat → Int) (gk : Nat) (p : Nat) (wr : World) : Prop :=
  ∃ (bs : List Nat) (l' : Nat → Int), gk = bs.length ∧ p < n ∧ AS w N base R V n M Gb vt va via l' fq qv q wr ∧ Back via hed bs p ∧ PushOk hed l' bs ∧ bs.foldl push1 l' = fin ∧ ∀ a, a ∈ bs → a < M

theorem push_eq {l : Nat → Int} {a : Nat} {c d : Int} (hc : c = l a - 1) (hd : d = l (x a) + 1) : (fun i => if i = x a then d else if i = a then c else l i) = push1 l a := by
  funext i
  unfold push1
  by_cases h1 : i = x a
  · subst h1; rw [if_pos rfl, if_pos rfl, hd]
  · by_cases h2 : i = a
    · subst h2; rw [if_neg h1, if_neg h1, if_pos rfl, if_pos rfl, hc]
    · rw [if_neg h1, if_neg h1, if_neg h2, if_neg h2]

theorem A4.short (h : A4 w N base R V n M Gb vt va L arc hed sink s V0 l i j qv q wr) : q.length ≤ n := by
  obtain ⟨_, _, _, _, b⟩ := h
  exact inj_le n _ _ b.lt b.nod
end

set_option maxRecDepth 100000 in
set_option maxHeartbeats 4000000 in
theorem augment_any (w : World) (N base R V n M Gb : Nat) (at' ai asx ga : Option Addr) (ct ci cs cg ls lo hi : Nat) (A : Nat → Option Addr) (C : Nat → Nat) (L : Nat → Nat) (arc : Nat → Nat → Nat) (hed : Nat → Nat) (sink : Nat) (st : Nat → Nat) (l via : Nat → Int) (fq : Value) (q : List Nat) (wr : World)
    (net : Net n M L arc hed sink l) (hn : n ≤ 4096) (hM : M ≤ 4096) (hs : ls ≤ 4096) (hL : ∀ v, v < n → L v ≤ 131072) (hhi : hi ≤ N) (hN : N ≤ w.heap.size)
    (hto : IRow w lo hi at' M (fun a => (hed a : Int))) (hr : IRows w lo hi ai n A L C (fun v i => (arc v i : Int))) (hst : IRow w lo hi asx ls (fun i => (st i : Int))) (hsl : ∀ i, i < ls → st i < n ∧ st i ≠ sink)
    (hga : M = 0 ∨ ga = some ⟨Gb, 0, none⟩) (has : AS w N base R V n M Gb (.slice at' M ct) (.slice ai n ci) via l fq fq q wr) :
    Calls Try.prog 34 #[.pointer (some ⟨R, 0, none⟩), .slice ga M cg, .slice asx ls cs, .int .i64 sink] wr fun e w' => AugRet w N base R V n M Gb (.slice at' M ct) (.slice ai n ci) L arc hed sink ls st l e w' := by
  have NET := hidden net
  have HL := hidden hL
  have HTO := hidden hto
  have HR := hidden hr
  have HST := hidden hst
  have HSL := hidden hsl
  have HAS := hidden has
  have hRV : ¬ (R = V) := has.rv.2.2.2.2
  have hVR : ¬ (V = R) := fun e => hRV e.symm
  have gR := has.fields.2.2.1
  have gR0 := has.fields.1
  clear net hL hto hr hst hsl has
  go_enter Try.func34, Try.ntmps34
  go_wp2
  go_loopw [22] (fun i w1 => ∃ (k : Nat) (via : Nat → Int), k ≤ n ∧ i = .int .i64 k ∧ AS w N base R V n M Gb (.slice at' M ct) (.slice ai n ci) via l fq fq q w1 ∧ ∀ u, u < k → via u = -1) (fun i _ => n - (intOf i).toNat)
  case atStart => exact ⟨0, via, Nat.zero_le _, rfl, HAS.out, fun u h => absurd h (Nat.not_lt_zero _)⟩
  case round =>
    obtain ⟨k, via, hk, rfl, hA, hv⟩ := hrel
    have AA := hidden hA
    have VV := hidden hv
    have f5 := hA.fields.2.2.1
    clear gR gR0 HAS
    by_cases hlt : k < n
    · obtain ⟨c1, c2⟩ := hA.viaAt hlt
      clear hA hv
      go_wp2
      go_roundw
      case rel => exact ⟨k + 1, _, by omega, by go_num, AA.out.mark k (-1), fun u hu => by
        by_cases e : u = k
        · simp [e]
        · simp only [e, if_false]; exact VV.out u (by omega)⟩
      case measure => simp [intOf]; omega
    · have e : n = k := by omega
      subst e
      have S2 := hidden (A2.start (L := L) (arc := arc) (hed := hed) (sink := sink) (st := st) AA.out VV.out)
      clear hA hv AA VV
      go_wp2
      go_loopw [34] (fun i w1 => ∃ k : Nat, k ≤ ls ∧ i = .int .i64 k ∧ A2 w N base R V n M Gb (.slice at' M ct) (.slice ai n ci) L arc hed sink st l k w1) (fun i _ => ls - (intOf i).toNat)
      case atStart => exact ⟨0, Nat.zero_le _, rfl, S2.out⟩
      case round =>
        obtain ⟨k, hk, rfl, via, fq, q, V0, hA, hv, hsh, hbf⟩ := hrel
        have AA := hidden hA
        have VV := hidden hv
        have SH := hidden hsh
        have BF := hidden hbf
        clear S2 f5
        by_cases hlt : k < ls
        · rcases (HST.out.below hA.below hhi) with h0 | ⟨b, o, rfl, _, hb, hc⟩
          · omega
          · have cs0 : wr.cell? ⟨b, o + k, none⟩ = some (.int .i64 (st k : Int)) := hc k hlt
            obtain ⟨hsn, hsk⟩ := HSL.out k hlt
            obtain ⟨s, hse⟩ : ∃ s, s = st k := ⟨_, rfl⟩
            rw [← hse] at cs0 hsn hsk
            have HSE := hidden hse
            clear hse
            obtain ⟨v1, v2⟩ := hA.viaAt hsn
            have f5 := hA.fields.2.2.1
            clear hc
            by_cases hvs : via s = -1
            · obtain ⟨qa, qc, rfl⟩ := own_form hA.own
              have f6 := hA.fields.2.2.2.1
              have OWN := hidden (own_empty (hA.both s (-2) (.cells #[.int .i64 (s : Int)] 3)).own)
              have SZ := hidden hA.size
              have BG : Hid (∀ g cap w2, _ → _ → A4 w N base R V n M Gb (.slice at' M ct) (.slice ai n ci) L arc hed sink s V0 l 0 0 (.slice (some ⟨g, 0, none⟩) 1 cap) [s] w2) := fun g cap w2 h1 h2 => A4.begin hA hv hsh hsn hsk hvs (.cells #[.int .i64 (s : Int)] 3) h1 h2
              have HN := hidden (news_one wr ⟨V, s, none⟩ (.int .i64 (-2)) (.int .i64 (s : Int)))
              obtain ⟨i3, hi3, hz0, hz1, hz2⟩ := info_parts Try.info3
              rw [hvs] at v1
              clear hA hv hsh hbf
              go_upto_region 11 with fail
              go_wp2_with (at_builtin; refine wpList_append_lies _ (by rfl) (.tmp 56) (.tmp 58) 26 (by rfl) base 3 i3 (.int .i64 0) 1 8 Try.underlying26 hi3 hz0 hz1 hz2 rfl (by omega) (.slice qa 0 qc) 0 [] (by rfl) OWN.out ⟨wr.heap.size, 0, none⟩ 1 1 [.int .i64 (s : Int)] (by rfl) rfl HN.out (by intro x hx; simp at hx; rw [hx]; rfl) (by omega) (by unfold maxLen; omega) (by omega) (by have := SZ.out; simp [World.setCell]; omega) (wr.heap.size + 1) (by simp [World.setCell]) ?_; intro g cap w2 hown hgrow hat hlt; have B0 := hidden (BG.out g cap w2 hgrow hown); clear hown hgrow hat hlt)
              go_loopw [12, 13] (fun qv i w1 => ∃ (i' : Nat) (q : List Nat) (a : Option Addr) (c : Nat), i = .int .i64 i' ∧ qv = .slice a q.length c ∧ i' ≤ q.length ∧ A4 w N base R V n M Gb (.slice at' M ct) (.slice ai n ci) L arc hed sink s V0 l i' 0 (.slice a q.length c) q w1) (fun _ i _ => n - (intOf i).toNat)
              case atStart => exact ⟨0, [s], _, _, rfl, rfl, Nat.zero_le _, B0.out⟩
              case round =>
                obtain ⟨i, q, qa, qc, rfl, rfl, hiq, h4⟩ := hrel
                have A4H := hidden h4
                have SHORT := h4.short
                clear BG HN OWN SZ AA VV v1 v2 f6 cs0 f5
                by_cases hlt3 : i < q.length
                · obtain ⟨via, dep, fq, hA, hB⟩ := h4
                  obtain ⟨v, hve⟩ : ∃ v, v = qf q i := ⟨_, rfl⟩
                  have hvn : v < n := by rw [hve]; exact hB.lt i hlt3
                  obtain ⟨qg, rfl, cq⟩ := own_cell hA.own (qf_get hlt3)
                  rw [← hve] at cq
                  have HVE := hidden hve.symm
                  have f1 := hA.fields.2.1
                  rcases (HR.out.below hA.below hhi) with h0 | ⟨ab, ao, rfl, _, hab, hrows⟩
                  · omega
                  obtain ⟨av, cvv, hav⟩ : ∃ av cv, A v = av ∧ C v = cv := ⟨_, _, rfl, rfl⟩
                  have crow : wr.cell? ⟨ab, ao + v, none⟩ = some (.slice av (L v) cvv) := by
                    have := (hrows v hvn).1
                    rw [hav.1, hav.2] at this; exact this
                  have hrow0 : IRow w lo hi av (L v) (fun i => ((arc v i : Nat) : Int)) := by
                    rcases HR.out with h0 | ⟨_, _, _, _, _, hrows'⟩
                    · omega
                    · have := (hrows' v hvn).2.2.2
                      rw [hav.1] at this; exact this
                  have RK := hidden hrow0
                  have hlv := HL.out v hvn
                  clear hrows hav hrow0 hve hA hB
                  go_wp2_with fail
                  go_quiet (fail)
                  go_wp2
                  go_loopw [12, 77] (fun qv jv w1 => ∃ (j : Nat) (q : List Nat) (a : Option Addr) (c : Nat), jv = .int .i64 j ∧ qv = .slice a q.length c ∧ j ≤ L v ∧ i < q.length ∧ qf q i = v ∧ A4 w N base R V n M Gb (.slice at' M ct) (.slice (some ⟨ab, ao, none⟩) n ci) L arc hed sink s V0 l i j (.slice a q.length c) q w1) (fun _ jv _ => L v - (intOf jv).toNat)
                  case atStart => exact ⟨0, q, _, _, rfl, rfl, Nat.zero_le _, hlt3, HVE.out, A4H.out.drewN _⟩
                  case round =>
                    obtain ⟨j, q, qa, qc, rfl, rfl, hjl, hiq2, hqv, h4⟩ := hrel
                    have A4H := hidden h4
                    have HQV := hidden hqv
                    have SHORT := h4.short
                    clear cq f1 crow HVE
                    by_cases hj : j < L v
                    · obtain ⟨via, dep, fq, hA, hB⟩ := h4
                      obtain ⟨b, hbe⟩ : ∃ b, b = arc v j := ⟨_, rfl⟩
                      have hbM : b < M := by rw [hbe]; exact NET.out.arclt v hvn j hj
                      obtain ⟨u, hue⟩ : ∃ u, u = hed b := ⟨_, rfl⟩
                      have hun : u < n := by rw [hue]; exact NET.out.tolt b hbM
                      rcases (RK.out.below hA.below hhi) with h0 | ⟨rb, ro, rfl, _, _, hcells⟩
                      · omega
                      have cu : wr.cell? ⟨rb, ro + j, none⟩ = some (.int .i64 (b : Int)) := by rw [hbe]; exact hcells j hj
                      rcases (HTO.out.below hA.below hhi) with h0 | ⟨tb, tto, rfl, _, _, tcells⟩
                      · omega
                      have ct0 : wr.cell? ⟨tb, tto + b, none⟩ = some (.int .i64 (u : Int)) := by rw [hue]; exact tcells b hbM
                      obtain rfl := hga.resolve_left (by omega)
                      obtain ⟨f0, _, f5, _, _⟩ := hA.fields
                      obtain ⟨cl, cl'⟩ := hA.leftAt hbM
                      obtain ⟨cv, cv'⟩ := hA.viaAt hun
                      have HBE := hidden hbe
                      have HUE := hidden hue
                      have AA := hidden hA
                      have BB := hidden hB
                      have HA1 : Hid (arc (qf q i) j = b) := by show arc (qf q i) j = b; rw [hqv, hbe]
                      clear hcells tcells hbe hue hA hB hqv
                      by_cases hl0 : l b = 0
                      · rw [hl0] at cl
                        have NX := hidden (A4H.out.skip AA.out BB.out hiq2 (by rw [HA1.out, ← HUE.out]; exact hun) (.inl (by rw [HA1.out]; exact hl0)))
                        clear hl0
                        go_wp2
                        go_roundw
                        case rel => exact ⟨j + 1, q, _, _, by go_num, rfl, by omega, hiq2, HQV.out, NX.out⟩
                        case measure => simp [intOf]; omega
                      · have eb : (l b == 0) = false := beq_eq_false_iff_ne.2 hl0
                        have HL0 := hidden hl0
                        clear hl0
                        by_cases hvu : via u = -1
                        · rw [hvu] at cv
                          have HVU := hidden hvu
                          clear hvu
                          have hj' : j < L (qf q i) := by rw [HQV.out]; exact hj
                          by_cases hus : u = sink
                          · have hsu := hus.symm
                            clear hus
                            subst hsu
                            have htl : hed (x (arc (qf q i) j)) = qf q i := NET.out.tail (qf q i) (by rw [HQV.out]; exact hvn) j hj'
                            obtain ⟨via', hvia'⟩ : ∃ via' : Nat → Int, via' = fun u => if u = sink then (b : Int) else via u := ⟨_, rfl⟩
                            obtain ⟨d, bs, TR⟩ := BB.out.found hiq2 hj' (by rw [HA1.out]; exact HL0.out) (by rw [HA1.out]; exact HUE.out.symm) htl (via' := via') (fun u hu => by rw [hvia']; exact if_neg hu) (by rw [HA1.out, hvia']; exact if_pos rfl)
                            have PO := pushOk NET.out.nonneg NET.out.pair bs 0 l TR.lv (fun b hb => absurd rfl hb)
                            have MA : Hid (A5 w N base R V n M Gb (.slice (some ⟨tb, tto, none⟩) M ct) (.slice (some ⟨ab, ao, none⟩) n ci) hed l via' fq (.slice qa q.length qc) q (bs.foldl push1 l) bs.length sink (wr.setCell ⟨V, sink, none⟩ (.int .i64 (b : Int)))) :=
                              ⟨bs, l, rfl, hun, by rw [hvia']; exact AA.out.mark sink b, TR.bck, PO, rfl, fun a ha => by
                                obtain ⟨v, l', h1, h2, h3⟩ := TR.lst a ha
                                rw [← h3]; exact NET.out.arclt v h1 l' h2⟩
                            have DN : Hid (∀ e l', e = .returned (.bool true) → l' = bs.foldl push1 l → Aug n L arc hed sink ls st l l' e) := fun e l' h1 h2 => .inr ⟨h1, k, V0, d, bs, via', hlt, SH.out, BF.out, by rw [← HSE.out]; exact TR, PO, h2⟩
                            clear TR PO hvia' htl hj' AA BB
                            go_wp2
                            go_loopg [16] bs.length (fun gk pv w1 => ∃ p : Nat, pv = .int .i64 p ∧ A5 w N base R V n M Gb (.slice (some ⟨tb, tto, none⟩) M ct) (.slice (some ⟨ab, ao, none⟩) n ci) hed l via' fq (.slice qa q.length qc) q (bs.foldl push1 l) gk p w1)
                            case atStart => exact ⟨sink, rfl, MA.out⟩
                            case round =>
                              obtain ⟨p, rfl, bs', l', hgk, hpn, hA5, hbk, hpo, hfin, hmem⟩ := hrel
                              clear MA cl cl' cv cv' ct0 cu f0 f5
                              obtain ⟨f0, _, f5, f6, f6'⟩ := hA5.fields
                              obtain ⟨c1, c2⟩ := hA5.viaAt hpn
                              have A5H := hidden hA5
                              cases bs' with
                              | nil =>
                                have c : via' p = -2 := hbk
                                rw [c] at c1
                                have FF := hidden hfin
                                clear c hbk hpo hfin hmem hA5
                                go_wp2
                                go_ret
                                exact ⟨_, _, _, _, A5H.out.keep _, DN.out _ _ rfl FF.out⟩
                              | cons a bs' =>
                                obtain ⟨hva, hta, hbk'⟩ := hbk
                                obtain ⟨p1, p2, p3, p4, p5⟩ := hpo
                                have haM : a < M := hmem a List.mem_cons_self
                                have hxM : x a < M := x_lt haM NET.out.even
                                have hxn : hed (x a) < n := NET.out.tolt _ hxM
                                rw [hva] at c1
                                obtain ⟨e1, e2⟩ := hA5.leftAt haM
                                obtain ⟨e3, e4⟩ := hA5.leftAt hxM
                                have hbx := bits_x a (by omega)
                                have hxa : ¬ (x a = a) := x_ne a
                                have hax : ¬ (a = x a) := fun e => x_ne a e.symm
                                have hGV : ¬ (Gb = V) ∧ ¬ (Gb = R) := by
                                  rcases hA5.got with g | ⟨_, _, g3, g4, _⟩
                                  · omega
                                  · exact ⟨g4, g3⟩
                                obtain ⟨g1, g2⟩ := hGV
                                have g1' : ¬ (V = Gb) := fun e => g1 e.symm
                                have g2' : ¬ (R = Gb) := fun e => g2 e.symm
                                rcases (HTO.out.below hA5.below hhi) with h0 | ⟨tb', tto', htt, _, tblt, tcells⟩
                                · omega
                                have htt' : tb = tb' ∧ tto = tto' := by simpa using htt
                                obtain ⟨rfl, rfl⟩ := htt'
                                have cx : wr.cell? ⟨tb, tto + x a, none⟩ = some (.int .i64 ((hed (x a) : Nat) : Int)) := tcells (x a) hxM
                                have g3 : ¬ (tb = Gb) := by
                                  rcases hA5.got with g | ⟨g0, _⟩
                                  · omega
                                  · omega
                                have g3' : ¬ (Gb = tb) := fun e => g3 e.symm
                                have NX : Hid (∀ c d : Int, c = l' a - 1 → d = l' (x a) + 1 → ∀ k, A5 w N base R V n M Gb (.slice (some ⟨tb, tto, none⟩) M ct) (.slice (some ⟨ab, ao, none⟩) n ci) hed l via' fq (.slice qa q.length qc) q (bs.foldl push1 l) bs'.length (hed (x a)) (((wr.setCell ⟨Gb, a, none⟩ (.int .i8 c)).setCell ⟨Gb, x a, none⟩ (.int .i8 d)).drewN k)) := fun c d hc hd k =>
                                  ⟨bs', push1 l' a, rfl, hxn, by
                                    have h1 := ((hA5.left (by omega) a c).left (by omega) (x a) d).drewN k
                                    rw [push_eq hc hd] at h1; exact h1, hbk', p5, hfin, fun b hb => hmem b (List.mem_cons_of_mem _ hb)⟩
                                have hgk' : bs'.length < gk := by rw [hgk]; simp
                                clear hbk' p5 hfin hmem hva hta tcells hA5 htt hgk
                                obtain ⟨y, hy⟩ : ∃ y, y = x a := ⟨_, rfl⟩
                                obtain ⟨z, hz⟩ : ∃ z, z = hed y := ⟨_, rfl⟩
                                rw [← hy] at hxM hxn hbx hxa hax e3 e4 cx p3 p4 NX
                                rw [← hz] at cx NX hxn
                                clear hy hz
                                go_wp2
                                go_quiet (fail)
                                go_wp2
                                go_roundg bs'.length
                                case measure => exact hgk'
                                case rel => exact ⟨z, by go_num, NX.out _ _ rfl rfl _⟩
                          · have es : ((u : Int) != (sink : Int)) = true := by simp; omega
                            have OWN := hidden (AA.out.both u b (.cells #[.int .i64 (u : Int)] 3)).own
                            have SZ := hidden AA.out.size
                            have AD : Hid (∀ g cap w2, ((wr.setCell ⟨V, u, none⟩ (.int .i64 (b : Int))).alloc (.cells #[.int .i64 (u : Int)] 3)).grownBy w2 (Value.slice qa q.length qc).ownBlock → w2.ownsRow base 3 1 (.slice (some ⟨g, 0, none⟩) (q.length + 1) cap) (q.length + 1) (ints q ++ [.int .i64 (u : Int)]) → A4 w N base R V n M Gb (.slice (some ⟨tb, tto, none⟩) M ct) (.slice (some ⟨ab, ao, none⟩) n ci) L arc hed sink s V0 l i (j + 1) (.slice (some ⟨g, 0, none⟩) (q.length + 1) cap) (q ++ [u]) w2) := fun g cap w2 h1 h2 => by
                              have := A4.add (g := g) (cap := cap) (w2 := w2) NET.out AA.out BB.out hiq2 hj' HA1.out HL0.out (by rw [← HUE.out]; exact HVU.out) (by rw [← HUE.out]; exact hus) (.cells #[.int .i64 (u : Int)] 3)
                              rw [← HUE.out] at this
                              exact this h1 h2
                            have HN := hidden (news_one wr ⟨V, u, none⟩ (.int .i64 (b : Int)) (.int .i64 (u : Int)))
                            have QK := hidden (qf_keep (u := u) hiq2)
                            clear hus AA BB A4H hj'
                            go_upto_region 22 with fail
                            go_wp2_with (at_builtin; refine wpList_append_lies _ (by rfl) (.tmp 113) (.tmp 115) 26 (by rfl) base 3 i3 (.int .i64 0) 1 8 Try.underlying26 hi3 hz0 hz1 hz2 rfl (by omega) (.slice qa q.length qc) q.length (ints q) (by rfl) OWN.out ⟨wr.heap.size, 0, none⟩ 1 1 [.int .i64 (u : Int)] (by rfl) rfl HN.out (by intro x hx; simp at hx; rw [hx]; rfl) (by omega) (by unfold maxLen; omega) (by omega) (by have := SZ.out; simp [World.setCell]; omega) (wr.heap.size + 1) (by simp [World.setCell]) ?_; intro g cap w2 hown hgrow hat hlt; have PP := hidden (AD.out g cap w2 hgrow hown); clear hown hgrow hat hlt)
                            go_roundw
                            case rel => exact ⟨j + 1, q ++ [u], _, _, by go_num, by rw [List.length_append]; rfl, by omega, by rw [List.length_append]; omega, QK.out.trans HQV.out, by rw [List.length_append]; exact PP.out⟩
                            case measure => simp [intOf]; omega
                        · have eb2 : (via u != -1) = true := by simpa using hvu
                          have NX := hidden (A4H.out.skip AA.out BB.out hiq2 (by rw [HA1.out, ← HUE.out]; exact hun) (.inr (by rw [HA1.out, ← HUE.out]; exact hvu)))
                          clear hvu
                          go_wp2
                          go_roundw
                          case rel => exact ⟨j + 1, q, _, _, by go_num, rfl, by omega, hiq2, HQV.out, NX.out⟩
                          case measure => simp [intOf]; omega
                    · have NX := hidden (h4.next hiq2 (by rw [hqv]; omega))
                      have e : j = L v := by omega
                      clear h4 A4H hqv
                      subst e
                      go_wp2
                      go_roundw
                      case rel => exact ⟨i + 1, q, _, _, by go_num, rfl, by omega, NX.out⟩
                      case measure => simp [intOf]; omega
                · have e : i = q.length := by omega
                  subst e
                  have NX := hidden (A2.over h4 HSE.out BF.out)
                  obtain ⟨via, dep, fq, hA, hB⟩ := h4
                  obtain ⟨_, _, _, f6, f6'⟩ := hA.fields
                  clear hA hB A4H
                  go_wp2
                  go_roundw
                  case rel => exact ⟨k + 1, by omega, by go_num, NX.out⟩
                  case measure => simp [intOf]; omega
            · have hV0 := (hv s hsn).1 hvs
              have NX : Hid (∀ i, i < k + 1 → V0 (st i)) := fun i hi => by
                by_cases e : i = k
                · subst e; rw [← HSE.out]; exact hV0
                · exact BF.out i (by omega)
              have hb2 : (via s != -1) = true := by simpa using hvs
              clear hA hv hsh hbf
              go_wp2
              go_roundw
              case rel => exact ⟨k + 1, by omega, by go_num, via, fq, q, V0, AA.out, VV.out, SH.out, NX.out⟩
              case measure => simp [intOf]; omega
        · have e : ls = k := by omega
          subst e
          clear hA hv hsh hbf
          go_wp2
          go_ret
          exact ⟨via, l, fq, q, AA.out, .inl ⟨rfl, rfl, V0, SH.out, BF.out⟩⟩

end Go.Proofs.Qxb6604796a
