/-
  THE ROW OF 'FnAugmentSendsOneUnitAlongTheFirstShortestPath': the guide's own frame (proof-skeleton), turned to rows.
-/
import Derived.Test.Qxb6604796aFz
import Derived.Test.Qxb6604796aO2
namespace Go.Proofs.Qxb6604796a.fnAugmentSendsOneUnitAlongTheFirstShortestPath
open Go.ChangeShapes Go.WideShapes Go.ChangeAt Go.RowKit
set_option linter.unusedVariables false

set_option maxRecDepth 100000 in
theorem lifted (os : Os) (started : os.Started) (H : Type) (enc : TypeId × Value → H) :
    ReturnsInHanded {} Try.checked os 5 .any (Rows.fnAugmentSendsOneUnitAlongTheFirstShortestPathSpec.pre6 enc Try.prog Try.f5 Rows.fnAugmentSendsOneUnitAlongTheFirstShortestPathRow.domain false) (Rows.fnAugmentSendsOneUnitAlongTheFirstShortestPathSpec.post enc Try.prog Try.f5 false true false false) := by
  refine returnsInHanded_of_change (C := Try.checked) own started (by kernel_rfl) Try.func5
    (ChangeSpec.witness6 (enc := enc) (C := Try.checked) false ⟨#[], #[.slice none 0 0, .slice none 0 0, .slice none 0 0, .slice none 0 0, .int .i64 0], []⟩ 5 (by kernel_rfl) (by kernel_rfl) (by kernel_rfl) (by kernel_rfl)) ?_
  intro W base args ds gs before hval0 hW hcnd _
  have hval : ∀ (j : Nat) t v, Try.f5.params[j]? = some t → args[j]? = some v → Value.okWide Try.prog W .any base t v := hval0
  have hW' := hW
  obtain ⟨p, q, hA0, hV, rfl, hfz, hnd⟩ := hW
  have hA : DataW.TrodAll enc Try.prog W 0 (fun _ => true) true Try.f5.params.toList args.toList ds p := hA0
  rw [Try.params5] at hA hval
  obtain ⟨v0, vs0, d0, ds0, p0, q0, hargs, rfl, rfl, h0, r0⟩ := trodAll_cons hA
  obtain ⟨v1, vs1, d1, ds1, p1, q1, rfl, rfl, rfl, h1, r1⟩ := trodAll_cons r0
  obtain ⟨v2, vs2, d2, ds2, p2, q2, rfl, rfl, rfl, h2, r2⟩ := trodAll_cons r1
  obtain ⟨v3, vs3, d3, ds3, p3, q3, rfl, rfl, rfl, h3, r3⟩ := trodAll_cons r2
  obtain ⟨v4, vs4, d4, ds4, p4, q4, rfl, rfl, rfl, h4, r4⟩ := trodAll_cons r3
  obtain ⟨rfl, rfl, rfl⟩ := trodAll_nil r4
  obtain rfl : args = #[v0, v1, v2, v3, v4] := by cases args; simp_all
  obtain ⟨rfl, rfl⟩ := trodVars_none hV
  obtain ⟨a0, n0, c0, rfl⟩ := okWide_slice Try.underlying26 (hval 0 26 v0 rfl rfl)
  obtain ⟨a1, n1, c1, rfl⟩ := okWide_slice Try.underlying27 (hval 1 27 v1 rfl rfl)
  obtain ⟨a2, n2, c2, rfl⟩ := okWide_slice Try.underlying28 (hval 2 28 v2 rfl rfl)
  obtain ⟨a3, n3, c3, rfl⟩ := okWide_slice Try.underlying26 (hval 3 26 v3 rfl rfl)
  obtain ⟨sink, rfl⟩ := okWide_int Try.underlying3 (hval 4 3 v4 rfl rfl)
  have lt0 : ∀ x ∈ p0, x.block < W.heap.size := by obtain ⟨m, hm⟩ := h0; exact DataW.trod_lt m _ _ _ hm
  have lt1 : ∀ x ∈ p1, x.block < W.heap.size := by obtain ⟨m, hm⟩ := h1; exact DataW.trod_lt m _ _ _ hm
  have lt2 : ∀ x ∈ p2, x.block < W.heap.size := by obtain ⟨m, hm⟩ := h2; exact DataW.trod_lt m _ _ _ hm
  have lt3 : ∀ x ∈ p3, x.block < W.heap.size := by obtain ⟨m, hm⟩ := h3; exact DataW.trod_lt m _ _ _ hm
  have lt4 : ∀ x ∈ p4, x.block < W.heap.size := by obtain ⟨m, hm⟩ := h4; exact DataW.trod_lt m _ _ _ hm
  obtain ⟨T, m0, e0⟩ : ∃ Z, n0 ≤ maxLen ∧ IRow W 0 W.heap.size a0 n0 Z := by
    obtain ⟨fuel, hf⟩ := h0
    obtain ⟨a, l, c, Z, e, g1, g2, g3⟩ := row_of hf
    simp [Value.cells] at e
    obtain ⟨rfl, rfl, rfl⟩ := e
    exact ⟨Z, Nat.le_trans g1 g2, g3⟩
  obtain ⟨A, L, C, Z, m1, hr⟩ : ∃ A L C Z, n1 ≤ maxLen ∧ IRows W 0 W.heap.size a1 n1 A L C Z := by
    obtain ⟨fuel, hf⟩ := h1
    obtain ⟨a, l, c, A, L, C, Z, e, g1, g2, g3⟩ := rows_of hf
    simp [Value.cells] at e
    obtain ⟨rfl, rfl, rfl⟩ := e
    exact ⟨A, L, C, Z, Nat.le_trans g1 g2, g3⟩
  obtain ⟨F, m2, e2, hF⟩ : ∃ Z, n2 ≤ maxLen ∧ I8 W 0 W.heap.size a2 n2 Z ∧ ∀ i, i < n2 → -128 ≤ Z i ∧ Z i ≤ 127 := by
    obtain ⟨fuel, hf⟩ := h2
    obtain ⟨a, l, c, Z, e, g1, g2, g3, g4⟩ := row8_of hf
    simp [Value.cells] at e
    obtain ⟨rfl, rfl, rfl⟩ := e
    exact ⟨Z, Nat.le_trans g1 g2, g3, g4⟩
  obtain ⟨S, m3, e3⟩ : ∃ Z, n3 ≤ maxLen ∧ IRow W 0 W.heap.size a3 n3 Z := by
    obtain ⟨fuel, hf⟩ := h3
    obtain ⟨a, l, c, Z, e, g1, g2, g3⟩ := row_of hf
    simp [Value.cells] at e
    obtain ⟨rfl, rfl, rfl⟩ := e
    exact ⟨Z, Nat.le_trans g1 g2, g3⟩
  clear hA0 hval0
  refine (law5 a0 a1 a2 a3 n0 c0 n1 c1 n2 c2 n3 c3 sink A L C Z T F S W m0 m1 m2 m3 hF hr e0 e2 e3).mono fun e W' ⟨he, bel⟩ => ?_
  subst he
  exact ⟨_, rfl, _, _, _, [], _, [], hW', trodAll_mk1 (shut_bool Try.underlying4 _),
    (trodAll_cons_mk (Below.trod laidOut (by kernel_rfl) (of_decide_eq_true (by kernel_rfl)) h0 bel lt0)
    (trodAll_cons_mk (Below.trod laidOut (by kernel_rfl) (of_decide_eq_true (by kernel_rfl)) h1 bel lt1)
    (trodAll_cons_mk (Below.trod laidOut (by kernel_rfl) (of_decide_eq_true (by kernel_rfl)) h2 bel lt2)
    (trodAll_cons_mk (Below.trod laidOut (by kernel_rfl) (of_decide_eq_true (by kernel_rfl)) h3 bel lt3)
    (trodAll_cons_mk (Below.trod laidOut (by kernel_rfl) (of_decide_eq_true (by kernel_rfl)) h4 bel lt4)
    trodAll_mk0))))), rfl, bel.frame _, fun h => by cases h⟩

theorem over : Rows.fnAugmentSendsOneUnitAlongTheFirstShortestPathRow.holds Try.pinned (OpenSpec.ofChange Rows.fnAugmentSendsOneUnitAlongTheFirstShortestPathSpec) :=
  OpenClaim.holds_of_wide 5 Try.f5 rfl rfl rfl rfl rfl rfl rfl ⟨rfl, rfl, rfl, rfl, rfl⟩ rfl rfl rfl rfl rfl (by kernel_rfl) Try.func5 (by kernel_rfl)
    (of_decide_eq_true (by kernel_rfl)) (by unfold Func.isWrapper; first | (rw [if_pos (by decide +kernel)]; kernel_rfl) | (rw [if_neg (by decide +kernel)]; exact ⟨rfl, rfl⟩))
    (fun os started H enc _ => lifted os started H enc)

/-- ████ THE STATEMENT ████ -/
theorem proved : Rows.FnAugmentSendsOneUnitAlongTheFirstShortestPathSaid := over
#print axioms proved
end Go.Proofs.Qxb6604796a.fnAugmentSendsOneUnitAlongTheFirstShortestPath
