/-
  THE ROW OF 'FnMeetIsACommonBackwardReach': the guide's own frame (proof-skeleton), turned to rows and rows of rows.
-/
import Derived.Test.Qxb6604796aM2
import Derived.Test.Qxb6604796aR4
import Derived.Test.Qxb6604796aO1
namespace Go.Proofs.Qxb6604796a.fnMeetIsACommonBackwardReach
open Go.ChangeShapes Go.WideShapes Go.ChangeAt Go.RowKit
set_option linter.unusedVariables false

theorem meetSaid : MeetSaid := fun R A ai a1 a2 a3 n ca l1 c1 l2 c2 l3 c3 d cd lo hi Aa L C Z Z1 Z2 Z3 f w dom hn h1 h2 h3 hL hhi hR hA hAR hf f1 f5 f14 f15 hadj hr r1 r2 r3 =>
  meet_any R A ai a1 a2 a3 n ca l1 c1 l2 c2 l3 c3 d cd lo hi Aa L C Z Z1 Z2 Z3 f w dom hn h1 h2 h3 hL hhi hR hA hAR hf f1 f5 f14 f15 hadj hr r1 r2 r3

set_option maxRecDepth 100000 in
theorem lifted (os : Os) (started : os.Started) (H : Type) (enc : TypeId × Value → H) :
    ReturnsInHanded {} Try.checked os 7 .any (Rows.fnMeetIsACommonBackwardReachSpec.pre6 enc Try.prog Try.f7 Rows.fnMeetIsACommonBackwardReachRow.domain false) (Rows.fnMeetIsACommonBackwardReachSpec.post enc Try.prog Try.f7 false true false false) := by
  refine returnsInHanded_of_change (C := Try.checked) own started (by kernel_rfl) Try.func7
    (ChangeSpec.witness6 (enc := enc) (C := Try.checked) false ⟨#[], #[.slice none 0 0, .slice none 0 0, .slice none 0 0, .slice none 0 0], []⟩ 7 (by kernel_rfl) (by kernel_rfl) (by kernel_rfl) (by kernel_rfl)) ?_
  intro W base args ds gs before hval0 hW hcnd _
  have hval : ∀ (j : Nat) t v, Try.f7.params[j]? = some t → args[j]? = some v → Value.okWide Try.prog W .any base t v := hval0
  have hW' := hW
  obtain ⟨p, q, hA0, hV, rfl, hfz, hnd⟩ := hW
  have hA : DataW.TrodAll enc Try.prog W 0 (fun _ => true) true Try.f7.params.toList args.toList ds p := hA0
  rw [Try.params7] at hA hval
  obtain ⟨v0, vs0, d0, ds0, p0, q0, hargs, rfl, rfl, h0, r0⟩ := trodAll_cons hA
  obtain ⟨v1, vs1, d1, ds1, p1, q1, rfl, rfl, rfl, h1, r1⟩ := trodAll_cons r0
  obtain ⟨v2, vs2, d2, ds2, p2, q2, rfl, rfl, rfl, h2, r2⟩ := trodAll_cons r1
  obtain ⟨v3, vs3, d3, ds3, p3, q3, rfl, rfl, rfl, h3, r3⟩ := trodAll_cons r2
  obtain ⟨rfl, rfl, rfl⟩ := trodAll_nil r3
  obtain rfl : args = #[v0, v1, v2, v3] := by cases args; simp_all
  obtain ⟨rfl, rfl⟩ := trodVars_none hV
  obtain ⟨a0, n0, c0, rfl⟩ := okWide_slice Try.underlying27 (hval 0 27 v0 rfl rfl)
  obtain ⟨a1, n1, c1, rfl⟩ := okWide_slice Try.underlying26 (hval 1 26 v1 rfl rfl)
  obtain ⟨a2, n2, c2, rfl⟩ := okWide_slice Try.underlying26 (hval 2 26 v2 rfl rfl)
  obtain ⟨a3, n3, c3, rfl⟩ := okWide_slice Try.underlying26 (hval 3 26 v3 rfl rfl)
  have lt0 : ∀ x ∈ p0, x.block < W.heap.size := by obtain ⟨m, hm⟩ := h0; exact DataW.trod_lt m _ _ _ hm
  have lt1 : ∀ x ∈ p1, x.block < W.heap.size := by obtain ⟨m, hm⟩ := h1; exact DataW.trod_lt m _ _ _ hm
  have lt2 : ∀ x ∈ p2, x.block < W.heap.size := by obtain ⟨m, hm⟩ := h2; exact DataW.trod_lt m _ _ _ hm
  have lt3 : ∀ x ∈ p3, x.block < W.heap.size := by obtain ⟨m, hm⟩ := h3; exact DataW.trod_lt m _ _ _ hm
  obtain ⟨A, L, C, Z, m0, hr⟩ : ∃ A L C Z, n0 ≤ maxLen ∧ IRows W 0 W.heap.size a0 n0 A L C Z := by
    obtain ⟨fuel, hf⟩ := h0
    obtain ⟨a, l, c, A, L, C, Z, e, g1, g2, g3⟩ := rows_of hf
    simp [Value.cells] at e
    obtain ⟨rfl, rfl, rfl⟩ := e
    exact ⟨A, L, C, Z, Nat.le_trans g1 g2, g3⟩
  obtain ⟨Z1, m1, e1⟩ : ∃ Z, n1 ≤ maxLen ∧ IRow W 0 W.heap.size a1 n1 Z := by
    obtain ⟨fuel, hf⟩ := h1
    obtain ⟨a, l, c, Z, e, g1, g2, g3⟩ := row_of hf
    simp [Value.cells] at e
    obtain ⟨rfl, rfl, rfl⟩ := e
    exact ⟨Z, Nat.le_trans g1 g2, g3⟩
  obtain ⟨Z2, m2, e2⟩ : ∃ Z, n2 ≤ maxLen ∧ IRow W 0 W.heap.size a2 n2 Z := by
    obtain ⟨fuel, hf⟩ := h2
    obtain ⟨a, l, c, Z, e, g1, g2, g3⟩ := row_of hf
    simp [Value.cells] at e
    obtain ⟨rfl, rfl, rfl⟩ := e
    exact ⟨Z, Nat.le_trans g1 g2, g3⟩
  obtain ⟨Z3, m3, e3⟩ : ∃ Z, n3 ≤ maxLen ∧ IRow W 0 W.heap.size a3 n3 Z := by
    obtain ⟨fuel, hf⟩ := h3
    obtain ⟨a, l, c, Z, e, g1, g2, g3⟩ := row_of hf
    simp [Value.cells] at e
    obtain ⟨rfl, rfl, rfl⟩ := e
    exact ⟨Z, Nat.le_trans g1 g2, g3⟩
  clear hA0 hval0
  refine (law7 meetSaid a0 a1 a2 a3 n0 c0 n1 c1 n2 c2 n3 c3 A L C Z Z1 Z2 Z3 W m0 m1 m2 m3 hr e1 e2 e3).mono fun e W' ⟨he, bel⟩ => ?_
  subst he
  exact ⟨_, rfl, _, _, _, [], _, [], hW', trodAll_mk1 (shut_bool Try.underlying4 _),
    (trodAll_cons_mk (Below.trod laidOut (by kernel_rfl) (of_decide_eq_true (by kernel_rfl)) h0 bel lt0)
    (trodAll_cons_mk (Below.trod laidOut (by kernel_rfl) (of_decide_eq_true (by kernel_rfl)) h1 bel lt1)
    (trodAll_cons_mk (Below.trod laidOut (by kernel_rfl) (of_decide_eq_true (by kernel_rfl)) h2 bel lt2)
    (trodAll_cons_mk (Below.trod laidOut (by kernel_rfl) (of_decide_eq_true (by kernel_rfl)) h3 bel lt3)
    trodAll_mk0)))), rfl, bel.frame _, fun h => by cases h⟩

theorem over : Rows.fnMeetIsACommonBackwardReachRow.holds Try.pinned (OpenSpec.ofChange Rows.fnMeetIsACommonBackwardReachSpec) :=
  OpenClaim.holds_of_wide 7 Try.f7 rfl rfl rfl rfl rfl rfl rfl ⟨rfl, rfl, rfl, rfl, rfl⟩ rfl rfl rfl rfl rfl (by kernel_rfl) Try.func7 (by kernel_rfl)
    (of_decide_eq_true (by kernel_rfl)) (by unfold Func.isWrapper; first | (rw [if_pos (by decide +kernel)]; kernel_rfl) | (rw [if_neg (by decide +kernel)]; exact ⟨rfl, rfl⟩))
    (fun os started H enc _ => lifted os started H enc)

/-- ████ THE STATEMENT ████ -/
theorem proved : Rows.FnMeetIsACommonBackwardReachSaid := over
#print axioms proved
end Go.Proofs.Qxb6604796a.fnMeetIsACommonBackwardReach
