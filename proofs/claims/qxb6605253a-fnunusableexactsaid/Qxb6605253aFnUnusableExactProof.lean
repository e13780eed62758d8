/-
  THE ROW OF 'FnUnusableExact': the guide's own frame (proof-skeleton), turned to slices of structs and of strings.
-/
import Derived.Test.Qxb6605253aGa
import Derived.Test.Qxb6605253aGb
namespace Go.Proofs.Qxb6605253a.fnUnusableExact
open Go.ChangeShapes Go.WideShapes Go.ChangeAt Go.RowKit
set_option linter.unusedVariables false

set_option maxRecDepth 100000 in
theorem lifted (os : Os) (started : os.Started) (H : Type) (enc : TypeId × Value → H) :
    ReturnsInHanded {} Try.checked os 7 .any (Rows.fnUnusableExactSpec.pre6 enc Try.prog Try.f7 Rows.fnUnusableExactRow.domain false) (Rows.fnUnusableExactSpec.post enc Try.prog Try.f7 false true false false) := by
  refine returnsInHanded_of_change (C := Try.checked) own started (by kernel_rfl) Try.func7
    (ChangeSpec.witness6 (enc := enc) (C := Try.checked) false ⟨#[], #[.slice none 0 0, .string ⟨#[]⟩, .slice none 0 0, .slice none 0 0, .bool false, .slice none 0 0], []⟩ 8 (by kernel_rfl) (by kernel_rfl) (by kernel_rfl) (by kernel_rfl)) ?_
  intro W base args ds gs before hval0 hW hcnd _
  have hval : ∀ (j : Nat) t v, Try.f7.params[j]? = some t → args[j]? = some v → Value.okWide Try.prog W .any base t v := hval0
  have hW' := hW
  obtain ⟨p, q, hA0, hV, rfl, hfz, hnd⟩ := hW
  have hA : DataW.TrodAll enc Try.prog W 0 (fun _ => true) true Try.f7.params.toList args.toList ds p := hA0
  rw [Try.params7] at hA hval
  obtain ⟨v0, vs0, d0, ds0, p0, q0, hargs, rfl, rfl, h0, r0⟩ := trodAll_cons hA
  obtain ⟨v1, vs1, d1, ds1, p1, q1, rfl, rfl, rfl, h1, r1⟩ := trodAll_cons r0
  obtain ⟨v2, vs2, d2, ds2, p2, q2, rfl, rfl, rfl, h2, r2⟩ := trodAll_cons r1
  obtain ⟨v3, vs3, d3, ds3, p3, q3, rfl, rfl, rfl, h3, r3⟩ := trodAll_cons r2
  obtain ⟨v4, vs4, d4, ds4, p4, q4, rfl, rfl, rfl, h4, r4⟩ := trodAll_cons r3
  obtain ⟨v5, vs5, d5, ds5, p5, q5, rfl, rfl, rfl, h5, r5⟩ := trodAll_cons r4
  obtain ⟨rfl, rfl, rfl⟩ := trodAll_nil r5
  obtain rfl : args = #[v0, v1, v2, v3, v4, v5] := by cases args; simp_all
  obtain ⟨rfl, rfl⟩ := trodVars_none hV
  obtain ⟨a0, n0, c0, rfl⟩ := okWide_slice Try.underlying37 (hval 0 37 v0 rfl rfl)
  obtain ⟨key, rfl⟩ := okWide_string Try.underlying9 (hval 1 9 v1 rfl rfl)
  obtain ⟨a2, n2, c2, rfl⟩ := okWide_slice Try.underlying61 (hval 2 61 v2 rfl rfl)
  obtain ⟨a3, n3, c3, rfl⟩ := okWide_slice Try.underlying61 (hval 3 61 v3 rfl rfl)
  obtain ⟨single, rfl⟩ := okWide_bool Try.underlying4 (hval 4 4 v4 rfl rfl)
  obtain ⟨a5, n5, c5, rfl⟩ := okWide_slice Try.underlying39 (hval 5 39 v5 rfl rfl)
  have lt0 : ∀ x ∈ p0, x.block < W.heap.size := by obtain ⟨m, hm⟩ := h0; exact DataW.trod_lt m _ _ _ hm
  have lt1 : ∀ x ∈ p1, x.block < W.heap.size := by obtain ⟨m, hm⟩ := h1; exact DataW.trod_lt m _ _ _ hm
  have lt2 : ∀ x ∈ p2, x.block < W.heap.size := by obtain ⟨m, hm⟩ := h2; exact DataW.trod_lt m _ _ _ hm
  have lt3 : ∀ x ∈ p3, x.block < W.heap.size := by obtain ⟨m, hm⟩ := h3; exact DataW.trod_lt m _ _ _ hm
  have lt4 : ∀ x ∈ p4, x.block < W.heap.size := by obtain ⟨m, hm⟩ := h4; exact DataW.trod_lt m _ _ _ hm
  have lt5 : ∀ x ∈ p5, x.block < W.heap.size := by obtain ⟨m, hm⟩ := h5; exact DataW.trod_lt m _ _ _ hm
  obtain ⟨g, m0, z0, e0, og⟩ : ∃ g, n0 ≤ maxLen ∧ (a0 = none → n0 = 0 ∧ c0 = 0) ∧ SRow W W.heap.size a0 n0 6 (gV g) ∧ ∀ i, i < n0 → (g i).t.ok := by
    obtain ⟨fuel, hf⟩ := h0
    obtain ⟨a, l, c, Z, e, g1, g2, g3, g4, g5⟩ := gpus_of hf
    simp [Value.cells] at e
    obtain ⟨rfl, rfl, rfl⟩ := e
    exact ⟨Z, Nat.le_trans g1 g2, g3, g4, g5⟩
  obtain ⟨s1, m2, z2, e2⟩ : ∃ s, n2 ≤ maxLen ∧ (a2 = none → n2 = 0 ∧ c2 = 0) ∧ SRow W W.heap.size a2 n2 1 (sV s) := by
    obtain ⟨fuel, hf⟩ := h2
    obtain ⟨a, l, c, Z, e, g1, g2, g3, g4⟩ := strings_of hf
    simp [Value.cells] at e
    obtain ⟨rfl, rfl, rfl⟩ := e
    exact ⟨Z, Nat.le_trans g1 g2, g3, g4⟩
  obtain ⟨s2, m3, z3, e3⟩ : ∃ s, n3 ≤ maxLen ∧ (a3 = none → n3 = 0 ∧ c3 = 0) ∧ SRow W W.heap.size a3 n3 1 (sV s) := by
    obtain ⟨fuel, hf⟩ := h3
    obtain ⟨a, l, c, Z, e, g1, g2, g3, g4⟩ := strings_of hf
    simp [Value.cells] at e
    obtain ⟨rfl, rfl, rfl⟩ := e
    exact ⟨Z, Nat.le_trans g1 g2, g3, g4⟩
  obtain ⟨q, m5, z5, e5, ok⟩ : ∃ q, n5 ≤ maxLen ∧ (a5 = none → n5 = 0 ∧ c5 = 0) ∧ SRow W W.heap.size a5 n5 6 (kV q) ∧ ∀ i, i < n5 → (q i).t.ok := by
    obtain ⟨fuel, hf⟩ := h5
    obtain ⟨a, l, c, Z, e, g1, g2, g3, g4, g5⟩ := kernels_of hf
    simp [Value.cells] at e
    obtain ⟨rfl, rfl, rfl⟩ := e
    exact ⟨Z, Nat.le_trans g1 g2, g3, g4, g5⟩
  clear hA0 hval0
  refine (law7 a0 a2 a3 a5 n0 c0 n2 c2 n3 c3 n5 c5 key single g s1 s2 q W m0 m2 m3 m5 z0 z2 z3 z5 e0 e2 e3 e5 og ok).mono fun e W' ⟨he, bel⟩ => ?_
  subst he
  exact ⟨_, rfl, _, _, _, [], _, [], hW', trodAll_mk1 (shut_bool Try.underlying4 _),
    (trodAll_cons_mk (Below.trod laidOut (by kernel_rfl) (of_decide_eq_true (by kernel_rfl)) h0 bel lt0)
    (trodAll_cons_mk (Below.trod laidOut (by kernel_rfl) (of_decide_eq_true (by kernel_rfl)) h1 bel lt1)
    (trodAll_cons_mk (Below.trod laidOut (by kernel_rfl) (of_decide_eq_true (by kernel_rfl)) h2 bel lt2)
    (trodAll_cons_mk (Below.trod laidOut (by kernel_rfl) (of_decide_eq_true (by kernel_rfl)) h3 bel lt3)
    (trodAll_cons_mk (Below.trod laidOut (by kernel_rfl) (of_decide_eq_true (by kernel_rfl)) h4 bel lt4)
    (trodAll_cons_mk (Below.trod laidOut (by kernel_rfl) (of_decide_eq_true (by kernel_rfl)) h5 bel lt5)
    trodAll_mk0)))))), rfl, bel.frame _, fun h => by cases h⟩

theorem over : Rows.fnUnusableExactRow.holds Try.pinned (OpenSpec.ofChange Rows.fnUnusableExactSpec) :=
  OpenClaim.holds_of_wide 7 Try.f7 rfl rfl rfl rfl rfl rfl rfl ⟨rfl, rfl, rfl, rfl, rfl⟩ rfl rfl rfl rfl rfl (by kernel_rfl) Try.func7 (by kernel_rfl)
    (of_decide_eq_true (by kernel_rfl)) (by unfold Func.isWrapper; first | (rw [if_pos (by decide +kernel)]; kernel_rfl) | (rw [if_neg (by decide +kernel)]; exact ⟨rfl, rfl⟩))
    (fun os started H enc _ => lifted os started H enc)

/-- ████ THE STATEMENT ████ -/
theorem proved : Rows.FnUnusableExactSaid := over
#print axioms proved
end Go.Proofs.Qxb6605253a.fnUnusableExact
