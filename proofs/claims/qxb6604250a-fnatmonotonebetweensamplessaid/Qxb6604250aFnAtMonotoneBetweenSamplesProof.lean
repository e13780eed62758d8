/-
  THE ROW OF 'FnAtMonotoneBetweenSamples': the arguments opened, the law's walk, the arguments shut. The frame is the guide's own (proof-skeleton), turned to a slice of structs of floats.
-/
import Derived.Test.Qxb6604250aW6
import Derived.ProofKit
import Derived.OpenShut
import Derived.ShutString
import Derived.ChangeOld
import Derived.Deep.Slices
namespace Go.Proofs.Qxb6604250a.fnAtMonotoneBetweenSamples
open Go.ChangeShapes Go.WideShapes Go.ChangeAt Go.RowKit
open Go.ChangeMaps (open_string shut_string)
set_option linter.unusedVariables false

theorem own : ownKnob Try.prog.godebug = none := by kernel_rfl
theorem laidOut : laidOutB Try.prog = true := by kernel_rfl
theorem cells27 : Try.prog.cellsOf 27 = 4 := by kernel_rfl
theorem cells23 : Try.prog.cellsOf 23 = 1 := by kernel_rfl

section
variable {H : Type} {enc : TypeId × Value → H} {P : Program} {w : World} {base : Nat} {spare : Nat → Bool} {held : Bool}

theorem trod_float {t : TypeId} {k : FloatKind} {fuel : Nat} {cs : List Value} {x : DataW H × List MemPlace} (ht : P.underlying t = some (.float k)) (h : DataW.trod enc P w base spare held fuel t cs = some x) : ∃ b, cs = [.float k b] := by
  cases fuel with
  | zero => simp [DataW.trod] at h
  | succ n =>
    unfold DataW.trod at h
    rw [ht] at h
    split at h <;> simp_all

/-- One sample's four cells. -/
theorem sample_cells {n : Nat} {cs : List Value} {x : DataW H × List MemPlace} (h : DataW.trod enc Try.prog w base spare held n 27 cs = some x) : ∃ f : Nat → Nat, ∀ j, j < 4 → cs[j]? = some (.float .f64 (f j)) := by
  obtain ⟨xs, m, _, _, hl, hlen, hf⟩ := DataW.trod_struct Try.underlying27 h
  rw [cells27] at hl
  have key : ∀ j, j < 4 → ∃ b, cs[j]? = some (.float .f64 b) := by
    intro j hj
    have hone : ∀ (f : Field), f.type = 23 → f.offset = j → (∃ y, DataW.trod enc Try.prog w base spare held m f.type ((cs.drop f.offset).take (Try.prog.cellsOf f.type)) = some y) → ∃ b, cs[j]? = some (.float .f64 b) := by
      intro f ft fo ⟨y, hy⟩
      rw [ft, fo, cells23] at hy
      obtain ⟨b, hb⟩ := trod_float Try.underlying23 hy
      refine ⟨b, ?_⟩
      have := congrArg (fun l => l[0]?) hb
      simpa using this
    have hx : ∀ i, i < xs.length → ∃ y, xs[i]? = some y := fun i hi => ⟨_, List.getElem?_eq_getElem hi⟩
    have hlen4 : xs.length = 4 := hlen
    have : j = 0 ∨ j = 1 ∨ j = 2 ∨ j = 3 := by omega
    rcases this with rfl | rfl | rfl | rfl
    · exact hone _ rfl rfl (by obtain ⟨y, hy⟩ := hx 0 (by omega); exact ⟨y, (hf 0 _ rfl).trans hy⟩)
    · exact hone _ rfl rfl (by obtain ⟨y, hy⟩ := hx 1 (by omega); exact ⟨y, (hf 1 _ rfl).trans hy⟩)
    · exact hone _ rfl rfl (by obtain ⟨y, hy⟩ := hx 2 (by omega); exact ⟨y, (hf 2 _ rfl).trans hy⟩)
    · exact hone _ rfl rfl (by obtain ⟨y, hy⟩ := hx 3 (by omega); exact ⟨y, (hf 3 _ rfl).trans hy⟩)
  exact Go.Deep.choose_lt (α := Nat) key

theorem samples_of {a : Addr} {len n : Nat} (hp : 0 < len)
    (hx : ∀ i, i < len → ∃ cs', w.cells? base (a.add (i * 4)) 4 = some cs' ∧ ∃ y, DataW.trod enc Try.prog w base spare held n 27 cs' = some y) :
    ∃ b o F, a = ⟨b, o, none⟩ ∧ b < w.heap.size ∧ Samples w b o len F := by
  have h1 : ∀ i, i < len → ∃ f : Nat → Nat, ∀ j, j < 4 → w.cell? (a.add (i * 4 + j)) = some (.float .f64 (f j)) := by
    intro i hi
    obtain ⟨cs', hc, y, hy⟩ := hx i hi
    obtain ⟨_, hlen, hcell⟩ := World.cells?_some hc
    obtain ⟨f, hf⟩ := sample_cells hy
    refine ⟨f, fun j hj => ?_⟩
    rw [← Go.Deep.add_add, hcell j hj, hf j hj]
  obtain ⟨F, hF⟩ := Go.Deep.choose_lt (α := Nat → Nat) h1
  obtain ⟨b, off, spot⟩ := a
  have h00 := hF 0 hp 0 (by omega)
  have hspot : spot = none := by simpa [Addr.add] using World.cell?_spot h00
  subst hspot
  refine ⟨b, off, F, rfl, ?_, fun k hk j hj => by rw [← Go.WideShapes.add_plain]; exact hF k hk j hj⟩
  rw [Nat.zero_mul, Nat.zero_add] at h00
  have h0 : w.cell? ⟨b, off, none⟩ = some (.float .f64 (F 0 0)) := h00
  unfold World.cell? at h0
  split at h0
  · rename_i c e hh heq
    exact (Array.getElem?_eq_some_iff.1 heq).1
  · cases h0
end

theorem walk (a0 : Option Addr) (len cap : Nat) (i : Int) (t1 t2 : Nat) (w : World) (hl : len ≤ cap) (hc : cap ≤ maxLen)
    (hr : len = 0 ∨ ∃ b o F, a0 = some ⟨b, o, none⟩ ∧ b < w.heap.size ∧ Samples w b o len F) (w1 : (Lit.int .i64 i).wf = true) :
    Calls Try.prog 4 #[.slice a0 len cap, .int .i64 i, .float .f64 t1, .float .f64 t2] w fun e w' => e = .returned (.bool true) ∧ Below w.heap.size w w' := by
  have hb : (-9223372036854775808 : Int) ≤ i ∧ i ≤ 9223372036854775807 := by
    simp [Lit.wf, IntKind.min, IntKind.max, IntKind.bits, IntKind.signed] at w1; omega
  rcases hr with rfl | ⟨b, o, F, rfl, hbs, hs⟩
  · exact law_short a0 0 cap i t1 t2 w (by unfold maxLen; omega) hb.1 hb.2 (increasing_nil a0 cap w) (by omega)
  · by_cases h : i < 0 ∨ (len : Int) - 2 < i ∨ 32768 < len
    · exact law_short _ len cap i t1 t2 w (Nat.le_trans hl hc) hb.1 hb.2 (increasing_some b o len cap F w hl hc hs) h
    · obtain ⟨k, rfl⟩ := Int.eq_ofNat_of_zero_le (show 0 ≤ i by omega)
      exact law_seg b o len cap k t1 t2 F w (by omega) (by omega) hbs hl hc hs

set_option maxRecDepth 100000 in
theorem lifted (os : Os) (started : os.Started) (H : Type) (enc : TypeId × Value → H) :
    ReturnsInHanded {} Try.checked os 4 .any (Rows.fnAtMonotoneBetweenSamplesSpec.pre6 enc Try.prog Try.f4 Rows.fnAtMonotoneBetweenSamplesRow.domain false) (Rows.fnAtMonotoneBetweenSamplesSpec.post enc Try.prog Try.f4 false true false false) := by
  refine returnsInHanded_of_change (C := Try.checked) own started (by kernel_rfl) Try.func4
    (ChangeSpec.witness6 (enc := enc) (C := Try.checked) false ⟨#[], #[.slice none 0 0, .int .i64 0, .float .f64 0, .float .f64 0], []⟩ 8 (by kernel_rfl) (by kernel_rfl) (by kernel_rfl) (by kernel_rfl)) ?_
  intro W base args ds gs before hval0 hW hcnd _
  have hval : ∀ (j : Nat) t v, Try.f4.params[j]? = some t → args[j]? = some v → Value.okWide Try.prog W .any base t v := hval0
  have hW' := hW
  obtain ⟨p, q, hA0, hV, rfl, hfz, hnd⟩ := hW
  have hA : DataW.TrodAll enc Try.prog W 0 (fun _ => true) true Try.f4.params.toList args.toList ds p := hA0
  rw [Try.params4] at hA hval
  obtain ⟨v0, vs0, d0, ds0, p0, q0, hargs, rfl, rfl, h0, r0⟩ := trodAll_cons hA
  obtain ⟨v1, vs1, d1, ds1, p1, q1, rfl, rfl, rfl, h1, r1⟩ := trodAll_cons r0
  obtain ⟨v2, vs2, d2, ds2, p2, q2, rfl, rfl, rfl, h2, r2⟩ := trodAll_cons r1
  obtain ⟨v3, vs3, d3, ds3, p3, q3, rfl, rfl, rfl, h3, r3⟩ := trodAll_cons r2
  obtain ⟨rfl, rfl, rfl⟩ := trodAll_nil r3
  obtain rfl : args = #[v0, v1, v2, v3] := by cases args; simp_all
  obtain ⟨rfl, rfl⟩ := trodVars_none hV
  obtain ⟨a0, len0, cap0, rfl⟩ := okWide_slice Try.underlying22 (hval 0 22 v0 rfl rfl)
  have k0 := h0
  have lt0 : ∀ x ∈ p0, x.block < W.heap.size := by obtain ⟨m, hm⟩ := k0; exact DataW.trod_lt m _ _ _ hm
  obtain ⟨hl, hc, hr⟩ : len0 ≤ cap0 ∧ cap0 ≤ maxLen ∧ (len0 = 0 ∨ ∃ b o F, a0 = some ⟨b, o, none⟩ ∧ b < W.heap.size ∧ Samples W b o len0 F) := by
    obtain ⟨fuel, hf⟩ := h0
    rcases Go.Deep.open_slice Try.underlying22 hf with ⟨hcs, _⟩ | ⟨x, l, c, m, n, D, Pl, hcs, _, hl, hm, hmm, _, hel⟩
    · simp [Value.cells] at hcs
      obtain ⟨rfl, rfl, rfl⟩ := hcs
      exact ⟨Nat.le_refl _, Nat.zero_le _, .inl rfl⟩
    · simp [Value.cells] at hcs
      obtain ⟨rfl, rfl, rfl⟩ := hcs
      refine ⟨hl, hm, ?_⟩
      by_cases hz : len0 = 0
      · exact .inl hz
      · right
        rw [cells27] at hel
        obtain ⟨b, o, F, rfl, hb, hS⟩ := samples_of (len := len0) (by omega) (fun i hi => by
          obtain ⟨cs', h1, h2⟩ := hel i (Nat.lt_of_lt_of_le hi (by rw [hmm]; exact hl))
          exact ⟨cs', h1, _, h2⟩)
        exact ⟨b, o, F, rfl, hb, hS⟩
  obtain ⟨a1, rfl, rfl, rfl, w1⟩ := open_int Try.underlying3 (hval 1 3 v1 rfl rfl) h1
  obtain ⟨t1, rfl, rfl, rfl, w2⟩ := open_float Try.underlying23 (hval 2 23 v2 rfl rfl) h2
  obtain ⟨t2, rfl, rfl, rfl, w3⟩ := open_float Try.underlying23 (hval 3 23 v3 rfl rfl) h3
  clear hA0 hval0
  refine (walk a0 len0 cap0 a1 t1 t2 W hl hc hr w1).mono fun e W' ⟨he, bel⟩ => ?_
  subst he
  exact ⟨_, rfl, _, _, _, [], _, [], hW', trodAll_mk1 (shut_bool Try.underlying4 _), (trodAll_cons_mk (Below.trod laidOut (by kernel_rfl) (of_decide_eq_true (by kernel_rfl)) k0 bel lt0) (trodAll_cons_mk (shut_int Try.underlying3 w1) (trodAll_cons_mk (shut_float Try.underlying23 w2) (trodAll_cons_mk (shut_float Try.underlying23 w3) trodAll_mk0)))), rfl, bel.frame _, fun h => by cases h⟩

theorem over : Rows.fnAtMonotoneBetweenSamplesRow.holds Try.pinned (OpenSpec.ofChange Rows.fnAtMonotoneBetweenSamplesSpec) :=
  OpenClaim.holds_of_wide 4 Try.f4 rfl rfl rfl rfl rfl rfl rfl ⟨rfl, rfl, rfl, rfl, rfl⟩ rfl rfl rfl rfl rfl (by kernel_rfl) Try.func4 (by kernel_rfl)
    (of_decide_eq_true (by kernel_rfl)) (by unfold Func.isWrapper; first | (rw [if_pos (by decide +kernel)]; kernel_rfl) | (rw [if_neg (by decide +kernel)]; exact ⟨rfl, rfl⟩))
    (fun os started H enc _ => lifted os started H enc)

/-- ████ THE STATEMENT ████ -/
theorem proved : Rows.FnAtMonotoneBetweenSamplesSaid := over
#print axioms proved
end Go.Proofs.Qxb6604250a.fnAtMonotoneBetweenSamples
