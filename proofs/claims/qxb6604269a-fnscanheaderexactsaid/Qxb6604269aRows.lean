/-
  No cell of these rows narrows 'for every input' (looked for: loops, veiled, ifaces, maps, wideKeys, modest, calm, conditions, laid).
  DERIVED. THE GIVEN ROWS OF THIS SEAT. 5 by the template 'for every input the law returns true; each argument reads behind the call as it read before'; 0 by the template 'total and deterministic' (their statements: Qxb6604269aTotals.lean).
  GIVEN WITH THE SEED: the statements are not yours to turn. If you find one false, say at which input.
  Laid BY PROGRAM, IN A SANDBOX (cutbox-rows.mjs): the forced cells as the released guide's own fill.sh prints them over the translation cc31cb6344630f99… (all of the seat's roots in one cut). By AI agents, Wed Nov 11 2026. No macro, syntax, notation, axiom, sorry.
-/
import Derived.Test.Qxb6604269aChecked
import GoSem.Claim
import GoSem.ClaimJoined
import GoSem.ClaimMapViews
import Derived.JoinedTies
import Derived.KernelRfl
namespace Go.Proofs.Qxb6604269a
/- THE CELL 'sum', in the pinned program and in every row, IS THE sha256 OF THE DUMP (.gsa) THAT Qxb6604269aProg.lean LOADS. Nothing in Lean hashes anything: it is a label: what it is worth is what the hold of that sum in a sandbox is worth. -/
noncomputable def Try.pinned : Pinned := { name := "qxb6604269a", sum := "cc31cb6344630f99d69c207ab0790375edafbc8d38ac743fbbfd5a3d1f10b021", checked := Try.checked }
namespace Rows
def none {H : Type} : Left H := { results := [], args := [] }

/-- 'zzlaws_resp_b1.FnScanHeaderExact': WHATEVER THE INPUT: true; the input reads as it did. -/
def fnScanHeaderExactSpec : ChangeSpec := { name := "fnScanHeaderExact", fn := fun _ => fun
  | [d1, d2] => { results := [.lit (.bool true)], args := [d1, d2] }
  | _ => none }
def fnScanHeaderExactRow : OpenClaim := { program := "qxb6604269a", sum := "cc31cb6344630f99d69c207ab0790375edafbc8d38ac743fbbfd5a3d1f10b021", func := "example.com/pollweave/pollweave/zzlaws_resp_b1.FnScanHeaderExact", spec := "fnScanHeaderExact", apart := false }
def FnScanHeaderExactSaid : Prop := fnScanHeaderExactRow.holds Try.pinned (OpenSpec.ofChange fnScanHeaderExactSpec)

/-- ITS FALSE NEIGHBOUR: 'it returns false'. Refute it at one input. -/
def fnScanHeaderExactWrong : ChangeSpec := { name := "fnScanHeaderExact", fn := fun _ => fun
  | [d1, d2] => { results := [.lit (.bool false)], args := [d1, d2] }
  | _ => none }
def FnScanHeaderExactWrongFalsely : Prop := fnScanHeaderExactRow.holds Try.pinned (OpenSpec.ofChange fnScanHeaderExactWrong)

/-- 'zzlaws_resp_b1.FnScanHeaderRoundTrip': WHATEVER THE INPUT: true; the input reads as it did. -/
def fnScanHeaderRoundTripSpec : ChangeSpec := { name := "fnScanHeaderRoundTrip", fn := fun _ => fun
  | [d1, d2, d3, d4] => { results := [.lit (.bool true)], args := [d1, d2, d3, d4] }
  | _ => none }
def fnScanHeaderRoundTripRow : OpenClaim := { program := "qxb6604269a", sum := "cc31cb6344630f99d69c207ab0790375edafbc8d38ac743fbbfd5a3d1f10b021", func := "example.com/pollweave/pollweave/zzlaws_resp_b1.FnScanHeaderRoundTrip", spec := "fnScanHeaderRoundTrip", apart := false }
def FnScanHeaderRoundTripSaid : Prop := fnScanHeaderRoundTripRow.holds Try.pinned (OpenSpec.ofChange fnScanHeaderRoundTripSpec)

/-- ITS FALSE NEIGHBOUR: 'it returns false'. Refute it at one input. -/
def fnScanHeaderRoundTripWrong : ChangeSpec := { name := "fnScanHeaderRoundTrip", fn := fun _ => fun
  | [d1, d2, d3, d4] => { results := [.lit (.bool false)], args := [d1, d2, d3, d4] }
  | _ => none }
def FnScanHeaderRoundTripWrongFalsely : Prop := fnScanHeaderRoundTripRow.holds Try.pinned (OpenSpec.ofChange fnScanHeaderRoundTripWrong)

/-- 'zzlaws_resp_b1.FnWithDefaultsSettles': WHATEVER THE INPUT: true; the input reads as it did. -/
def fnWithDefaultsSettlesSpec : ChangeSpec := { name := "fnWithDefaultsSettles", fn := fun _ => fun
  | [d1, d2, d3] => { results := [.lit (.bool true)], args := [d1, d2, d3] }
  | _ => none }
def fnWithDefaultsSettlesRow : OpenClaim := { program := "qxb6604269a", sum := "cc31cb6344630f99d69c207ab0790375edafbc8d38ac743fbbfd5a3d1f10b021", func := "example.com/pollweave/pollweave/zzlaws_resp_b1.FnWithDefaultsSettles", spec := "fnWithDefaultsSettles", apart := false }
def FnWithDefaultsSettlesSaid : Prop := fnWithDefaultsSettlesRow.holds Try.pinned (OpenSpec.ofChange fnWithDefaultsSettlesSpec)

/-- ITS FALSE NEIGHBOUR: 'it returns false'. Refute it at one input. -/
def fnWithDefaultsSettlesWrong : ChangeSpec := { name := "fnWithDefaultsSettles", fn := fun _ => fun
  | [d1, d2, d3] => { results := [.lit (.bool false)], args := [d1, d2, d3] }
  | _ => none }
def FnWithDefaultsSettlesWrongFalsely : Prop := fnWithDefaultsSettlesRow.holds Try.pinned (OpenSpec.ofChange fnWithDefaultsSettlesWrong)

/-- 'zzlaws_resp_b1.FnAppendLineExact': WHATEVER THE INPUT: true; the input reads as it did. -/
def fnAppendLineExactSpec : ChangeSpec := { name := "fnAppendLineExact", fn := fun _ => fun
  | [d1, d2] => { results := [.lit (.bool true)], args := [d1, d2] }
  | _ => none }
def fnAppendLineExactRow : OpenClaim := { program := "qxb6604269a", sum := "cc31cb6344630f99d69c207ab0790375edafbc8d38ac743fbbfd5a3d1f10b021", func := "example.com/pollweave/pollweave/zzlaws_resp_b1.FnAppendLineExact", spec := "fnAppendLineExact", apart := false }
def FnAppendLineExactSaid : Prop := fnAppendLineExactRow.holds Try.pinned (OpenSpec.ofChange fnAppendLineExactSpec)

/-- ITS FALSE NEIGHBOUR: 'it returns false'. Refute it at one input. -/
def fnAppendLineExactWrong : ChangeSpec := { name := "fnAppendLineExact", fn := fun _ => fun
  | [d1, d2] => { results := [.lit (.bool false)], args := [d1, d2] }
  | _ => none }
def FnAppendLineExactWrongFalsely : Prop := fnAppendLineExactRow.holds Try.pinned (OpenSpec.ofChange fnAppendLineExactWrong)

/-- 'zzlaws_resp_b1.FnAppendLineSettles': WHATEVER THE INPUT: true; the input reads as it did. -/
def fnAppendLineSettlesSpec : ChangeSpec := { name := "fnAppendLineSettles", fn := fun _ => fun
  | [d] => { results := [.lit (.bool true)], args := [d] }
  | _ => none }
def fnAppendLineSettlesRow : OpenClaim := { program := "qxb6604269a", sum := "cc31cb6344630f99d69c207ab0790375edafbc8d38ac743fbbfd5a3d1f10b021", func := "example.com/pollweave/pollweave/zzlaws_resp_b1.FnAppendLineSettles", spec := "fnAppendLineSettles", apart := false }
def FnAppendLineSettlesSaid : Prop := fnAppendLineSettlesRow.holds Try.pinned (OpenSpec.ofChange fnAppendLineSettlesSpec)

/-- ITS FALSE NEIGHBOUR: 'it returns false'. Refute it at one input. -/
def fnAppendLineSettlesWrong : ChangeSpec := { name := "fnAppendLineSettles", fn := fun _ => fun
  | [d] => { results := [.lit (.bool false)], args := [d] }
  | _ => none }
def FnAppendLineSettlesWrongFalsely : Prop := fnAppendLineSettlesRow.holds Try.pinned (OpenSpec.ofChange fnAppendLineSettlesWrong)

end Rows
end Go.Proofs.Qxb6604269a
