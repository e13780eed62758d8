/-
  THE ROW OF 'FnScanHeaderExact': the guide's own frame (proof-skeleton), the walk filled in out of the contracts.
-/
import Derived.Test.Qxb6604269aW3
import Derived.WalkKit
import Derived.ProofKit
import Derived.OpenShut
import Derived.ShutString
import Derived.ChangeOld
import Derived.Below
namespace Go.Proofs.Qxb6604269a.fnScanHeaderExact
open Go.ChangeShapes Go.WideShapes Go.ChangeAt Go.RowKit
open Go.ChangeMaps (open_string shut_string)
set_option linter.unusedVariables false

theorem own : ownKnob Try.prog.godebug = none := by kernel_rfl
theorem laidOut : laidOutB Try.prog = true := by kernel_rfl

/-- WHAT THE WALK IS TOLD OF A SLICE OF INTEGERS THAT CAME IN: it is nil; or it leads to a row of 'cap' cells, the numbers 'zs' (the first 'len' are its elements, the rest its spare room), each fitting its kind. -/
def IsRow (k : IntKind) (w : World) (a : Option Addr) (len cap : Nat) (zs : List Int) : Prop :=
  (a = none ∧ len = 0 ∧ cap = 0 ∧ zs = []) ∨
  ∃ x, a = some x ∧ len ≤ cap ∧ cap ≤ maxLen ∧ zs.length = cap ∧ (∀ i, i < zs.length → w.cell? (x.add i) = some (.int k (zs.getD i 0))) ∧ ∀ n ∈ zs, (Lit.int k n).wf = true

theorem law_far (a0 : Option Addr) (len cap : Nat) (pos : Int) (w : World) (hl : len ≤ maxLen) (h : 1048576 < len ∨ pos < 0 ∨ (len : Int) < pos) :
    Calls Try.prog 3 #[.slice a0 len cap, .int .i64 pos] w fun e w' => e = .returned (.bool true) ∧ Below w.heap.size w w' := by
  have hb := bytes_any a0 len cap pos w hl
  by_cases h0 : len ≤ 1048576
  · rw [decide_eq_true h0] at hb
    have HB := hidden hb
    clear hb
    have k0 : (len : Int) ≤ 1048576 := by omega
    by_cases h1 : pos < 0
    all_goals
      go_enter Try.func3, Try.ntmps3
      go_wp2_with fail
      refine HB.out.mono ?_
      rintro e w' ⟨rfl, rfl⟩
      go_wp2_with fail
      go_ret
      exact ⟨rfl, Below.refl _ _⟩
  · rw [decide_eq_false h0] at hb
    have HB := hidden hb
    clear hb
    go_enter Try.func3, Try.ntmps3
    go_wp2_with fail
    refine HB.out.mono ?_
    rintro e w' ⟨rfl, rfl⟩
    go_wp2_with fail
    go_ret
    exact ⟨rfl, Below.refl _ _⟩

theorem lt_of_cell {w : World} {b o : Nat} {v : Value} (h : w.cell? ⟨b, o, none⟩ = some v) : b < w.heap.size := by
  unfold World.cell? at h
  split at h
  · rename_i c e hh heq
    exact (Array.getElem?_eq_some_iff.1 heq).1
  · cases h

theorem walk (a0 : Option Addr) (len0 cap0 : Nat) (z0 : List Int) (a1 : Int) (w : World) (w0 : IsRow .u8 w a0 len0 cap0 z0) (w1 : (Lit.int .i64 a1).wf = true) :
    Calls Try.prog 3 #[.slice a0 len0 cap0, .int .i64 a1] w fun e w' => e = .returned (.bool true) ∧ Below w.heap.size w w' := by
  have hlen : len0 ≤ maxLen := by
    rcases w0 with ⟨_, rfl, _⟩ | ⟨_, _, h1, h2, _⟩
    · exact Nat.zero_le _
    · exact Nat.le_trans h1 h2
  by_cases hfar : 1048576 < len0 ∨ a1 < 0 ∨ (len0 : Int) < a1
  · exact law_far a0 len0 cap0 a1 w hlen hfar
  · obtain ⟨p, rfl⟩ := Int.eq_ofNat_of_zero_le (show 0 ≤ a1 by omega)
    rcases w0 with ⟨rfl, rfl, rfl, rfl⟩ | ⟨x, rfl, h1, h2, h3, hcell, hwf⟩
    · have : p = 0 := by omega
      subst this
      refine law_of none 0 0 0 (fun _ => 0) w (by omega) (by omega) ⟨.slice none 0 0, ?_⟩
      refine (clone_nil w).mono ?_
      rintro e w' ⟨rfl, rfl⟩
      exact ⟨rfl, Below.refl _ _, zscan_of _ _ _ _ _ _ (scan_empty none 0 _ _), model_empty none 0 _ _⟩
    · have hz : ∀ k, k < len0 → 0 ≤ z0.getD k 0 ∧ z0.getD k 0 ≤ 255 := by
        intro k hk
        have hm : z0.getD k 0 ∈ z0 := by
          rw [List.getD, List.getElem?_eq_getElem (show k < z0.length by omega)]
          exact List.getElem_mem _
        have := hwf _ hm
        clear hm
        generalize z0.getD k 0 = z at this ⊢
        simp [Lit.wf, IntKind.min, IntKind.max, IntKind.bits, IntKind.signed] at this
        omega
      refine law_of (some x) len0 cap0 p (fun k => z0.getD k 0) w (by omega) (by omega) ⟨.slice (some ⟨w.heap.size, 0, none⟩) len0 len0, ?_⟩
      refine (clone_some x len0 cap0 (fun k => z0.getD k 0) w (by omega) hz ?_).mono ?_
      · by_cases h0 : len0 = 0
        · exact .inl h0
        · right
          obtain ⟨b, off, rfl, hc⟩ := ints_at hcell (by omega)
          exact ⟨b, off, rfl, lt_of_cell (hc 0 (by omega)), fun k hk => hc k (by omega)⟩
      · rintro e w' ⟨rfl, hB, hbel, _⟩
        exact ⟨rfl, hbel, zscan_of _ _ _ _ _ _ (scan_any _ 0 len0 len0 p _ w' hB (by omega) (by omega)), model_any _ 0 len0 len0 p _ w' hB (by omega) (by omega)⟩

/-! ### THE ROW's STEP: WRITTEN OUT: LEAVE IT -/
set_option maxRecDepth 100000 in
theorem lifted (os : Os) (started : os.Started) (H : Type) (enc : TypeId × Value → H) :
    ReturnsInHanded {} Try.checked os 3 .any (Rows.fnScanHeaderExactSpec.pre6 enc Try.prog Try.f3 Rows.fnScanHeaderExactRow.domain false) (Rows.fnScanHeaderExactSpec.post enc Try.prog Try.f3 false true false false) := by
  refine returnsInHanded_of_change (C := Try.checked) own started (by kernel_rfl) Try.func3
    (ChangeSpec.witness6 (enc := enc) (C := Try.checked) false ⟨#[], #[.slice none 0 0, .int .i64 0], []⟩ 8 (by kernel_rfl) (by kernel_rfl) (by kernel_rfl) (by kernel_rfl)) ?_
  intro W base args ds gs before hval0 hW hcnd _
  have hval : ∀ (j : Nat) t v, Try.f3.params[j]? = some t → args[j]? = some v → Value.okWide Try.prog W .any base t v := hval0
  have hW' := hW
  obtain ⟨p, q, hA0, hV, rfl, hfz, hnd⟩ := hW
  have hA : DataW.TrodAll enc Try.prog W 0 (fun _ => true) true Try.f3.params.toList args.toList ds p := hA0
  rw [Try.params3] at hA hval
  obtain ⟨v0, vs0, d0, ds0, p0, q0, hargs, rfl, rfl, h0, r0⟩ := trodAll_cons hA
  obtain ⟨v1, vs1, d1, ds1, p1, q1, rfl, rfl, rfl, h1, r1⟩ := trodAll_cons r0
  obtain ⟨rfl, rfl, rfl⟩ := trodAll_nil r1
  obtain rfl : args = #[v0, v1] := by cases args; simp_all
  obtain ⟨rfl, rfl⟩ := trodVars_none hV
  obtain ⟨a0, len0, cap0, rfl⟩ := okWide_slice Try.underlying22 (hval 0 22 v0 rfl rfl)
  have k0 := h0
  have lt0 : ∀ x ∈ p0, x.block < W.heap.size := by obtain ⟨m, hm⟩ := k0; exact DataW.trod_lt m _ _ _ hm
  obtain ⟨z0, w0⟩ : ∃ zs, IsRow .u8 W a0 len0 cap0 zs := by
    obtain ⟨fuel, hf⟩ := h0
    rcases open_ints Try.underlying22 Try.underlying5 (by kernel_rfl) hf with ⟨hcs, _⟩ | ⟨x, l, c, zs, hcs, _, hl, hm, hz, _, hcell, hwz⟩
    · simp [Value.cells] at hcs
      obtain ⟨rfl, rfl, rfl⟩ := hcs
      exact ⟨[], .inl ⟨rfl, rfl, rfl, rfl⟩⟩
    · simp [Value.cells] at hcs
      obtain ⟨rfl, rfl, rfl⟩ := hcs
      exact ⟨zs, .inr ⟨_, rfl, hl, hm, by simpa using hz, hcell, hwz⟩⟩
  obtain ⟨a1, rfl, rfl, rfl, w1⟩ := open_int Try.underlying3 (hval 1 3 v1 rfl rfl) h1
  clear hA0 hval0
  refine (walk a0 len0 cap0 z0 a1 W w0 w1).mono fun e W' ⟨he, bel⟩ => ?_
  subst he
  exact ⟨_, rfl, _, _, _, [], _, [], hW', trodAll_mk1 (shut_bool Try.underlying4 _), (trodAll_cons_mk (Below.trod laidOut (by kernel_rfl) (of_decide_eq_true (by kernel_rfl)) k0 bel lt0) (trodAll_cons_mk (shut_int Try.underlying3 w1) trodAll_mk0)), rfl, bel.frame _, fun h => by cases h⟩

theorem over : Rows.fnScanHeaderExactRow.holds Try.pinned (OpenSpec.ofChange Rows.fnScanHeaderExactSpec) :=
  OpenClaim.holds_of_wide 3 Try.f3 rfl rfl rfl rfl rfl rfl rfl ⟨rfl, rfl, rfl, rfl, rfl⟩ rfl rfl rfl rfl rfl (by kernel_rfl) Try.func3 (by kernel_rfl)
    (of_decide_eq_true (by kernel_rfl)) (by unfold Func.isWrapper; first | (rw [if_pos (by decide +kernel)]; kernel_rfl) | (rw [if_neg (by decide +kernel)]; exact ⟨rfl, rfl⟩))
    (fun os started H enc _ => lifted os started H enc)

/-- ████ THE STATEMENT ████ -/
theorem proved : Rows.FnScanHeaderExactSaid := over
#print axioms proved
end Go.Proofs.Qxb6604269a.fnScanHeaderExact
