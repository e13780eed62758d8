/-
  No cell of these rows narrows 'for every input' (looked for: loops, veiled, ifaces, maps, wideKeys, modest, calm, conditions, laid).
  DERIVED. THE GIVEN ROWS OF THIS SEAT. 6 by the template 'for every input the law returns true; each argument reads behind the call as it read before'; 0 by the template 'total and deterministic' (their statements: Qxb6604796aTotals.lean).
  GIVEN WITH THE SEED: the statements are not yours to turn. If you find one false, say at which input.
  Laid BY PROGRAM, IN A SANDBOX (cutbox-rows.mjs): the forced cells as the released guide's own fill.sh prints them over the translation 87bdc75835558d78… (all of the seat's roots in one cut). By AI agents, Wed Nov 11 2026. No macro, syntax, notation, axiom, sorry.
-/
import Derived.Test.Qxb6604796aChecked
import GoSem.Claim
import GoSem.ClaimJoined
import GoSem.ClaimMapViews
import Derived.JoinedTies
import Derived.KernelRfl
namespace Go.Proofs.Qxb6604796a
/- THE CELL 'sum', in the pinned program and in every row, IS THE sha256 OF THE DUMP (.gsa) THAT Qxb6604796aProg.lean LOADS. Nothing in Lean hashes anything: it is a label: what it is worth is what the hold of that sum in a sandbox is worth. -/
noncomputable def Try.pinned : Pinned := { name := "qxb6604796a", sum := "87bdc75835558d78b025746b2eb2547465e24f78a395990e737ef20485536285", checked := Try.checked }
namespace Rows
def none {H : Type} : Left H := { results := [], args := [] }

/-- 'zzlaws_root_b1.FnDotTokenMatchesGrammar': WHATEVER THE INPUT: true; the input reads as it did. -/
def fnDotTokenMatchesGrammarSpec : ChangeSpec := { name := "fnDotTokenMatchesGrammar", fn := fun _ => fun
  | [d] => { results := [.lit (.bool true)], args := [d] }
  | _ => none }
def fnDotTokenMatchesGrammarRow : OpenClaim := { program := "qxb6604796a", sum := "87bdc75835558d78b025746b2eb2547465e24f78a395990e737ef20485536285", func := "example.com/arcwise/arcwise/zzlaws_root_b1.FnDotTokenMatchesGrammar", spec := "fnDotTokenMatchesGrammar", inPlace := ["internal/bytealg.IndexByte", "internal/bytealg.Index"], named := ["internal/bytealg.MaxLen"], apart := false }
def FnDotTokenMatchesGrammarSaid : Prop := fnDotTokenMatchesGrammarRow.holds Try.pinned (OpenSpec.ofChange fnDotTokenMatchesGrammarSpec)

/-- ITS FALSE NEIGHBOUR: 'it returns false'. Refute it at one input. -/
def fnDotTokenMatchesGrammarWrong : ChangeSpec := { name := "fnDotTokenMatchesGrammar", fn := fun _ => fun
  | [d] => { results := [.lit (.bool false)], args := [d] }
  | _ => none }
def FnDotTokenMatchesGrammarWrongFalsely : Prop := fnDotTokenMatchesGrammarRow.holds Try.pinned (OpenSpec.ofChange fnDotTokenMatchesGrammarWrong)

/-- 'zzlaws_root_b1.FnDotTokenReadsItsOwnText': WHATEVER THE INPUT: true; the input reads as it did. -/
def fnDotTokenReadsItsOwnTextSpec : ChangeSpec := { name := "fnDotTokenReadsItsOwnText", fn := fun _ => fun
  | [d] => { results := [.lit (.bool true)], args := [d] }
  | _ => none }
def fnDotTokenReadsItsOwnTextRow : OpenClaim := { program := "qxb6604796a", sum := "87bdc75835558d78b025746b2eb2547465e24f78a395990e737ef20485536285", func := "example.com/arcwise/arcwise/zzlaws_root_b1.FnDotTokenReadsItsOwnText", spec := "fnDotTokenReadsItsOwnText", inPlace := ["internal/bytealg.IndexByte", "internal/bytealg.Index"], named := ["internal/bytealg.MaxLen"], apart := false }
def FnDotTokenReadsItsOwnTextSaid : Prop := fnDotTokenReadsItsOwnTextRow.holds Try.pinned (OpenSpec.ofChange fnDotTokenReadsItsOwnTextSpec)

/-- ITS FALSE NEIGHBOUR: 'it returns false'. Refute it at one input. -/
def fnDotTokenReadsItsOwnTextWrong : ChangeSpec := { name := "fnDotTokenReadsItsOwnText", fn := fun _ => fun
  | [d] => { results := [.lit (.bool false)], args := [d] }
  | _ => none }
def FnDotTokenReadsItsOwnTextWrongFalsely : Prop := fnDotTokenReadsItsOwnTextRow.holds Try.pinned (OpenSpec.ofChange fnDotTokenReadsItsOwnTextWrong)

/-- 'zzlaws_root_b1.FnAugmentSendsOneUnitAlongTheFirstShortestPath': WHATEVER THE INPUT: true; the input reads as it did. -/
def fnAugmentSendsOneUnitAlongTheFirstShortestPathSpec : ChangeSpec := { name := "fnAugmentSendsOneUnitAlongTheFirstShortestPath", fn := fun _ => fun
  | [d1, d2, d3, d4, d5] => { results := [.lit (.bool true)], args := [d1, d2, d3, d4, d5] }
  | _ => none }
def fnAugmentSendsOneUnitAlongTheFirstShortestPathRow : OpenClaim := { program := "qxb6604796a", sum := "87bdc75835558d78b025746b2eb2547465e24f78a395990e737ef20485536285", func := "example.com/arcwise/arcwise/zzlaws_root_b1.FnAugmentSendsOneUnitAlongTheFirstShortestPath", spec := "fnAugmentSendsOneUnitAlongTheFirstShortestPath", apart := false }
def FnAugmentSendsOneUnitAlongTheFirstShortestPathSaid : Prop := fnAugmentSendsOneUnitAlongTheFirstShortestPathRow.holds Try.pinned (OpenSpec.ofChange fnAugmentSendsOneUnitAlongTheFirstShortestPathSpec)

/-- ITS FALSE NEIGHBOUR: 'it returns false'. Refute it at one input. -/
def fnAugmentSendsOneUnitAlongTheFirstShortestPathWrong : ChangeSpec := { name := "fnAugmentSendsOneUnitAlongTheFirstShortestPath", fn := fun _ => fun
  | [d1, d2, d3, d4, d5] => { results := [.lit (.bool false)], args := [d1, d2, d3, d4, d5] }
  | _ => none }
def FnAugmentSendsOneUnitAlongTheFirstShortestPathWrongFalsely : Prop := fnAugmentSendsOneUnitAlongTheFirstShortestPathRow.holds Try.pinned (OpenSpec.ofChange fnAugmentSendsOneUnitAlongTheFirstShortestPathWrong)

/-- 'zzlaws_root_b1.FnAugmentUntilStuckEqualsACut': WHATEVER THE INPUT: true; the input reads as it did. -/
def fnAugmentUntilStuckEqualsACutSpec : ChangeSpec := { name := "fnAugmentUntilStuckEqualsACut", fn := fun _ => fun
  | [d1, d2, d3, d4, d5] => { results := [.lit (.bool true)], args := [d1, d2, d3, d4, d5] }
  | _ => none }
def fnAugmentUntilStuckEqualsACutRow : OpenClaim := { program := "qxb6604796a", sum := "87bdc75835558d78b025746b2eb2547465e24f78a395990e737ef20485536285", func := "example.com/arcwise/arcwise/zzlaws_root_b1.FnAugmentUntilStuckEqualsACut", spec := "fnAugmentUntilStuckEqualsACut", apart := false }
def FnAugmentUntilStuckEqualsACutSaid : Prop := fnAugmentUntilStuckEqualsACutRow.holds Try.pinned (OpenSpec.ofChange fnAugmentUntilStuckEqualsACutSpec)

/-- ITS FALSE NEIGHBOUR: 'it returns false'. Refute it at one input. -/
def fnAugmentUntilStuckEqualsACutWrong : ChangeSpec := { name := "fnAugmentUntilStuckEqualsACut", fn := fun _ => fun
  | [d1, d2, d3, d4, d5] => { results := [.lit (.bool false)], args := [d1, d2, d3, d4, d5] }
  | _ => none }
def FnAugmentUntilStuckEqualsACutWrongFalsely : Prop := fnAugmentUntilStuckEqualsACutRow.holds Try.pinned (OpenSpec.ofChange fnAugmentUntilStuckEqualsACutWrong)

/-- 'zzlaws_root_b1.FnMeetIsACommonBackwardReach': WHATEVER THE INPUT: true; the input reads as it did. -/
def fnMeetIsACommonBackwardReachSpec : ChangeSpec := { name := "fnMeetIsACommonBackwardReach", fn := fun _ => fun
  | [d1, d2, d3, d4] => { results := [.lit (.bool true)], args := [d1, d2, d3, d4] }
  | _ => none }
def fnMeetIsACommonBackwardReachRow : OpenClaim := { program := "qxb6604796a", sum := "87bdc75835558d78b025746b2eb2547465e24f78a395990e737ef20485536285", func := "example.com/arcwise/arcwise/zzlaws_root_b1.FnMeetIsACommonBackwardReach", spec := "fnMeetIsACommonBackwardReach", apart := false }
def FnMeetIsACommonBackwardReachSaid : Prop := fnMeetIsACommonBackwardReachRow.holds Try.pinned (OpenSpec.ofChange fnMeetIsACommonBackwardReachSpec)

/-- ITS FALSE NEIGHBOUR: 'it returns false'. Refute it at one input. -/
def fnMeetIsACommonBackwardReachWrong : ChangeSpec := { name := "fnMeetIsACommonBackwardReach", fn := fun _ => fun
  | [d1, d2, d3, d4] => { results := [.lit (.bool false)], args := [d1, d2, d3, d4] }
  | _ => none }
def FnMeetIsACommonBackwardReachWrongFalsely : Prop := fnMeetIsACommonBackwardReachRow.holds Try.pinned (OpenSpec.ofChange fnMeetIsACommonBackwardReachWrong)

/-- 'zzlaws_root_b1.FnMeetNeverGainsByMoreCrashes': WHATEVER THE INPUT: true; the input reads as it did. -/
def fnMeetNeverGainsByMoreCrashesSpec : ChangeSpec := { name := "fnMeetNeverGainsByMoreCrashes", fn := fun _ => fun
  | [d1, d2, d3, d4, d5] => { results := [.lit (.bool true)], args := [d1, d2, d3, d4, d5] }
  | _ => none }
def fnMeetNeverGainsByMoreCrashesRow : OpenClaim := { program := "qxb6604796a", sum := "87bdc75835558d78b025746b2eb2547465e24f78a395990e737ef20485536285", func := "example.com/arcwise/arcwise/zzlaws_root_b1.FnMeetNeverGainsByMoreCrashes", spec := "fnMeetNeverGainsByMoreCrashes", apart := false }
def FnMeetNeverGainsByMoreCrashesSaid : Prop := fnMeetNeverGainsByMoreCrashesRow.holds Try.pinned (OpenSpec.ofChange fnMeetNeverGainsByMoreCrashesSpec)

/-- ITS FALSE NEIGHBOUR: 'it returns false'. Refute it at one input. -/
def fnMeetNeverGainsByMoreCrashesWrong : ChangeSpec := { name := "fnMeetNeverGainsByMoreCrashes", fn := fun _ => fun
  | [d1, d2, d3, d4, d5] => { results := [.lit (.bool false)], args := [d1, d2, d3, d4, d5] }
  | _ => none }
def FnMeetNeverGainsByMoreCrashesWrongFalsely : Prop := fnMeetNeverGainsByMoreCrashesRow.holds Try.pinned (OpenSpec.ofChange fnMeetNeverGainsByMoreCrashesWrong)

end Rows
end Go.Proofs.Qxb6604796a
