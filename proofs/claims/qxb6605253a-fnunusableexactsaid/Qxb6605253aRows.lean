/-
  No cell of these rows narrows 'for every input' (looked for: loops, veiled, ifaces, maps, wideKeys, modest, calm, conditions, laid).
  DERIVED. THE GIVEN ROWS OF THIS SEAT. 6 by the template 'for every input the law returns true; each argument reads behind the call as it read before'; 0 by the template 'total and deterministic' (their statements: Qxb6605253aTotals.lean).
  GIVEN WITH THE SEED: the statements are not yours to turn. If you find one false, say at which input.
  Laid BY PROGRAM, IN A SANDBOX (cutbox-rows.mjs): the forced cells as the released guide's own fill.sh prints them over the translation 9a2b89d34e1955d0… (all of the seat's roots in one cut). By AI agents, Wed Nov 11 2026. No macro, syntax, notation, axiom, sorry.
-/
import Derived.Test.Qxb6605253aChecked
import GoSem.Claim
import GoSem.ClaimJoined
import GoSem.ClaimMapViews
import Derived.JoinedTies
import Derived.KernelRfl
namespace Go.Proofs.Qxb6605253a
/- THE CELL 'sum', in the pinned program and in every row, IS THE sha256 OF THE DUMP (.gsa) THAT Qxb6605253aProg.lean LOADS. Nothing in Lean hashes anything: it is a label: what it is worth is what the hold of that sum in a sandbox is worth. -/
noncomputable def Try.pinned : Pinned := { name := "qxb6605253a", sum := "9a2b89d34e1955d0fbd1587cd572bf89f90cc3a67f722098bab9a83776c0ec87", checked := Try.checked }
namespace Rows
def none {H : Type} : Left H := { results := [], args := [] }

/-- 'zzlaws_gpu_b1.FnMismatchCaseTable': WHATEVER THE INPUT: true; the input reads as it did. -/
def fnMismatchCaseTableSpec : ChangeSpec := { name := "fnMismatchCaseTable", fn := fun _ => fun
  | [d1, d2] => { results := [.lit (.bool true)], args := [d1, d2] }
  | _ => none }
def fnMismatchCaseTableRow : OpenClaim := { program := "qxb6605253a", sum := "9a2b89d34e1955d0fbd1587cd572bf89f90cc3a67f722098bab9a83776c0ec87", func := "example.com/primerack/primerack/zzlaws_gpu_b1.FnMismatchCaseTable", spec := "fnMismatchCaseTable", plainKeys := false, apart := false }
def FnMismatchCaseTableSaid : Prop := fnMismatchCaseTableRow.holds Try.pinned (OpenSpec.ofChange fnMismatchCaseTableSpec)

/-- ITS FALSE NEIGHBOUR: 'it returns false'. Refute it at one input. -/
def fnMismatchCaseTableWrong : ChangeSpec := { name := "fnMismatchCaseTable", fn := fun _ => fun
  | [d1, d2] => { results := [.lit (.bool false)], args := [d1, d2] }
  | _ => none }
def FnMismatchCaseTableWrongFalsely : Prop := fnMismatchCaseTableRow.holds Try.pinned (OpenSpec.ofChange fnMismatchCaseTableWrong)

/-- 'zzlaws_gpu_b1.FnMismatchMonotoneSelfAndOrderFree': WHATEVER THE INPUT: true; the input reads as it did. -/
def fnMismatchMonotoneSelfAndOrderFreeSpec : ChangeSpec := { name := "fnMismatchMonotoneSelfAndOrderFree", fn := fun _ => fun
  | [d1, d2, d3] => { results := [.lit (.bool true)], args := [d1, d2, d3] }
  | _ => none }
def fnMismatchMonotoneSelfAndOrderFreeRow : OpenClaim := { program := "qxb6605253a", sum := "9a2b89d34e1955d0fbd1587cd572bf89f90cc3a67f722098bab9a83776c0ec87", func := "example.com/primerack/primerack/zzlaws_gpu_b1.FnMismatchMonotoneSelfAndOrderFree", spec := "fnMismatchMonotoneSelfAndOrderFree", plainKeys := false, apart := false }
def FnMismatchMonotoneSelfAndOrderFreeSaid : Prop := fnMismatchMonotoneSelfAndOrderFreeRow.holds Try.pinned (OpenSpec.ofChange fnMismatchMonotoneSelfAndOrderFreeSpec)

/-- ITS FALSE NEIGHBOUR: 'it returns false'. Refute it at one input. -/
def fnMismatchMonotoneSelfAndOrderFreeWrong : ChangeSpec := { name := "fnMismatchMonotoneSelfAndOrderFree", fn := fun _ => fun
  | [d1, d2, d3] => { results := [.lit (.bool false)], args := [d1, d2, d3] }
  | _ => none }
def FnMismatchMonotoneSelfAndOrderFreeWrongFalsely : Prop := fnMismatchMonotoneSelfAndOrderFreeRow.holds Try.pinned (OpenSpec.ofChange fnMismatchMonotoneSelfAndOrderFreeWrong)

/-- 'zzlaws_gpu_b1.FnVerdictsExact': WHATEVER THE INPUT: true; the input reads as it did. -/
def fnVerdictsExactSpec : ChangeSpec := { name := "fnVerdictsExact", fn := fun _ => fun
  | [d1, d2, d3] => { results := [.lit (.bool true)], args := [d1, d2, d3] }
  | _ => none }
def fnVerdictsExactRow : OpenClaim := { program := "qxb6605253a", sum := "9a2b89d34e1955d0fbd1587cd572bf89f90cc3a67f722098bab9a83776c0ec87", func := "example.com/primerack/primerack/zzlaws_gpu_b1.FnVerdictsExact", spec := "fnVerdictsExact", plainKeys := false, apart := false }
def FnVerdictsExactSaid : Prop := fnVerdictsExactRow.holds Try.pinned (OpenSpec.ofChange fnVerdictsExactSpec)

/-- ITS FALSE NEIGHBOUR: 'it returns false'. Refute it at one input. -/
def fnVerdictsExactWrong : ChangeSpec := { name := "fnVerdictsExact", fn := fun _ => fun
  | [d1, d2, d3] => { results := [.lit (.bool false)], args := [d1, d2, d3] }
  | _ => none }
def FnVerdictsExactWrongFalsely : Prop := fnVerdictsExactRow.holds Try.pinned (OpenSpec.ofChange fnVerdictsExactWrong)

/-- 'zzlaws_gpu_b1.FnVerdictsOneGPUAtATime': WHATEVER THE INPUT: true; the input reads as it did. -/
def fnVerdictsOneGPUAtATimeSpec : ChangeSpec := { name := "fnVerdictsOneGPUAtATime", fn := fun _ => fun
  | [d1, d2, d3] => { results := [.lit (.bool true)], args := [d1, d2, d3] }
  | _ => none }
def fnVerdictsOneGPUAtATimeRow : OpenClaim := { program := "qxb6605253a", sum := "9a2b89d34e1955d0fbd1587cd572bf89f90cc3a67f722098bab9a83776c0ec87", func := "example.com/primerack/primerack/zzlaws_gpu_b1.FnVerdictsOneGPUAtATime", spec := "fnVerdictsOneGPUAtATime", plainKeys := false, apart := false }
def FnVerdictsOneGPUAtATimeSaid : Prop := fnVerdictsOneGPUAtATimeRow.holds Try.pinned (OpenSpec.ofChange fnVerdictsOneGPUAtATimeSpec)

/-- ITS FALSE NEIGHBOUR: 'it returns false'. Refute it at one input. -/
def fnVerdictsOneGPUAtATimeWrong : ChangeSpec := { name := "fnVerdictsOneGPUAtATime", fn := fun _ => fun
  | [d1, d2, d3] => { results := [.lit (.bool false)], args := [d1, d2, d3] }
  | _ => none }
def FnVerdictsOneGPUAtATimeWrongFalsely : Prop := fnVerdictsOneGPUAtATimeRow.holds Try.pinned (OpenSpec.ofChange fnVerdictsOneGPUAtATimeWrong)

/-- 'zzlaws_gpu_b1.FnUnusableExact': WHATEVER THE INPUT: true; the input reads as it did. -/
def fnUnusableExactSpec : ChangeSpec := { name := "fnUnusableExact", fn := fun _ => fun
  | [d1, d2, d3, d4, d5, d6] => { results := [.lit (.bool true)], args := [d1, d2, d3, d4, d5, d6] }
  | _ => none }
def fnUnusableExactRow : OpenClaim := { program := "qxb6605253a", sum := "9a2b89d34e1955d0fbd1587cd572bf89f90cc3a67f722098bab9a83776c0ec87", func := "example.com/primerack/primerack/zzlaws_gpu_b1.FnUnusableExact", spec := "fnUnusableExact", plainKeys := false, apart := false }
def FnUnusableExactSaid : Prop := fnUnusableExactRow.holds Try.pinned (OpenSpec.ofChange fnUnusableExactSpec)

/-- ITS FALSE NEIGHBOUR: 'it returns false'. Refute it at one input. -/
def fnUnusableExactWrong : ChangeSpec := { name := "fnUnusableExact", fn := fun _ => fun
  | [d1, d2, d3, d4, d5, d6] => { results := [.lit (.bool false)], args := [d1, d2, d3, d4, d5, d6] }
  | _ => none }
def FnUnusableExactWrongFalsely : Prop := fnUnusableExactRow.holds Try.pinned (OpenSpec.ofChange fnUnusableExactWrong)

/-- 'zzlaws_gpu_b1.FnUnusableAgreesAndClears': WHATEVER THE INPUT: true; the input reads as it did. -/
def fnUnusableAgreesAndClearsSpec : ChangeSpec := { name := "fnUnusableAgreesAndClears", fn := fun _ => fun
  | [d1, d2, d3, d4, d5, d6] => { results := [.lit (.bool true)], args := [d1, d2, d3, d4, d5, d6] }
  | _ => none }
def fnUnusableAgreesAndClearsRow : OpenClaim := { program := "qxb6605253a", sum := "9a2b89d34e1955d0fbd1587cd572bf89f90cc3a67f722098bab9a83776c0ec87", func := "example.com/primerack/primerack/zzlaws_gpu_b1.FnUnusableAgreesAndClears", spec := "fnUnusableAgreesAndClears", plainKeys := false, apart := false }
def FnUnusableAgreesAndClearsSaid : Prop := fnUnusableAgreesAndClearsRow.holds Try.pinned (OpenSpec.ofChange fnUnusableAgreesAndClearsSpec)

/-- ITS FALSE NEIGHBOUR: 'it returns false'. Refute it at one input. -/
def fnUnusableAgreesAndClearsWrong : ChangeSpec := { name := "fnUnusableAgreesAndClears", fn := fun _ => fun
  | [d1, d2, d3, d4, d5, d6] => { results := [.lit (.bool false)], args := [d1, d2, d3, d4, d5, d6] }
  | _ => none }
def FnUnusableAgreesAndClearsWrongFalsely : Prop := fnUnusableAgreesAndClearsRow.holds Try.pinned (OpenSpec.ofChange fnUnusableAgreesAndClearsWrong)

end Rows
end Go.Proofs.Qxb6605253a
