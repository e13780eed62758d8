/-
  BASE: rows of structs; small walks.
-/
import Derived.Test.Qxb6605253aRows
import Derived.WalkKit
import Derived.WalkSpells
import Derived.WalkLawsBesides
import Derived.Deep.OwnRows
namespace Go.Proofs.Qxb6605253a
open Go.RowKit
set_option linter.unusedVariables false
set_option linter.unusedSimpArgs false

/-- A target. -/
structure T3 where
  be : ByteArray
  ar : ByteArray
  ws : Int

def T3.val (t : T3) : Value := .agg #[.string t.be, .string t.ar, .int .i64 t.ws]

theorem Try.size23 : (Try.prog.info? 23).map (·.size) = some 3 := by kernel_rfl
theorem Try.size30 : (Try.prog.info? 30).map (·.size) = some 3 := by kernel_rfl

/-- Two new blocks, nothing else. -/
def Two (w w' : World) : Prop := ∃ o1 o2, w' = (w.alloc o1).alloc o2

set_option maxHeartbeats 1000000 in
theorem tofG (i : Int) (be ar : ByteArray) (ws : Int) (pr dr : ByteArray) (w : World) :
    Calls Try.prog 27 #[.agg #[.int .i64 i, .string be, .string ar, .int .i64 ws, .string pr, .string dr]] w fun e w' => e = .returned (T3.val ⟨be, ar, ws⟩) ∧ Two w w' := by
  go_enter Try.func27, Try.ntmps27
  go_wp2
  refine bodyPost_ret (results_cell_row rfl _ _ (w.heap.size + 1) 23 #[.string be, .string ar, .int .i64 ws] _ _ rfl (heap_alloc2_new w _ _) Try.underlying23 rfl Try.size23) rfl ?_
  exact ⟨rfl, _, _, rfl⟩

set_option maxHeartbeats 1000000 in
theorem tofK (en nm be ar : ByteArray) (ws : Int) (tv : ByteArray) (w : World) :
    Calls Try.prog 36 #[.agg #[.string en, .string nm, .string be, .string ar, .int .i64 ws, .string tv]] w fun e w' => e = .returned (T3.val ⟨be, ar, ws⟩) ∧ Two w w' := by
  go_enter Try.func36, Try.ntmps36
  go_wp2
  refine bodyPost_ret (results_cell_row rfl _ _ (w.heap.size + 1) 23 #[.string be, .string ar, .int .i64 ws] _ _ rfl (heap_alloc2_new w _ _) Try.underlying23 rfl Try.size23) rfl ?_
  exact ⟨rfl, _, _, rfl⟩

set_option maxHeartbeats 1000000 in
theorem target13 (t : T3) (w : World) :
    Calls Try.prog 13 #[t.val] w fun e w' => e = .returned t.val ∧ Two w w' := by
  obtain ⟨be, ar, ws⟩ := t
  unfold T3.val
  go_enter Try.func13, Try.ntmps13
  go_wp2
  refine bodyPost_ret (results_cell_row rfl _ _ (w.heap.size + 1) 30 #[.string be, .string ar, .int .i64 ws] _ _ rfl (heap_alloc2_new w _ _) Try.underlying30 rfl Try.size30) rfl ?_
  exact ⟨rfl, _, _, rfl⟩

theorem bytes_inj {a b : ByteArray} (h : a.toList = b.toList) : a = b := by
  rw [ByteArray.toList_eq, ByteArray.toList_eq] at h
  cases a; cases b
  congr
  exact Array.toList_inj.1 h

theorem bytes_ne {a b : ByteArray} (h : a ≠ b) : (a.toList == b.toList) = false := beq_eq_false_iff_ne.2 fun e => h (bytes_inj e)

/-- How many leading parts agree. -/
def agree (o t : T3) : Nat := if o.be ≠ t.be then 0 else if o.ar ≠ t.ar then 1 else if o.ws ≠ t.ws then 2 else 3

set_option maxHeartbeats 1000000 in
theorem agree39 (o t : T3) (w : World) :
    Calls Try.prog 39 #[o.val, t.val] w fun e w' => e = .returned (.int .i64 (agree o t : Nat)) ∧ Two w w' := by
  obtain ⟨b1, a1, s1⟩ := o
  obtain ⟨b2, a2, s2⟩ := t
  unfold T3.val agree
  by_cases h1 : b1 = b2
  · subst h1
    by_cases h2 : a1 = a2
    · subst h2
      by_cases h3 : s1 = s2
      · subst h3
        have e1 : (s1 != s1) = false := by simp
        go_enter Try.func39, Try.ntmps39
        go_wp2
        go_ret
        exact ⟨by simp, _, _, rfl⟩
      · have e1 : (s1 != s2) = true := by simp [h3]
        go_enter Try.func39, Try.ntmps39
        go_wp2
        go_ret
        exact ⟨by simp [h3], _, _, rfl⟩
    · have e1 := bytes_ne h2
      go_enter Try.func39, Try.ntmps39
      go_wp2
      go_ret
      exact ⟨by simp [h2], _, _, rfl⟩
  · have e1 := bytes_ne h1
    go_enter Try.func39, Try.ntmps39
    go_wp2
    go_ret
    exact ⟨by simp [h1], _, _, rfl⟩

end Go.Proofs.Qxb6605253a
