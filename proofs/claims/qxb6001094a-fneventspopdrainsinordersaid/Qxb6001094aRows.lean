/-
  No cell of these rows narrows 'for every input' (looked for: loops, veiled, ifaces, maps, wideKeys, modest, calm, conditions, laid).
  DERIVED. THE GIVEN ROWS OF THIS SEAT. 8 by the template 'for every input the law returns true; each argument reads behind the call as it read before'; 0 by the template 'total and deterministic' (their statements: Qxb6001094aTotals.lean).
  GIVEN WITH THE SEED: the statements are not yours to turn. If you find one false, say at which input.
  Laid BY PROGRAM, IN A SANDBOX (cutbox-rows.mjs): the forced cells as the released guide's own fill.sh prints them over the translation 848a7b6e3ede6ddf… (all of the seat's roots in one cut). By AI agents, Wed Nov 11 2026. No macro, syntax, notation, axiom, sorry.
-/
import Derived.Test.Qxb6001094aChecked
import GoSem.Claim
import GoSem.ClaimJoined
import GoSem.ClaimMapViews
import Derived.JoinedTies
import Derived.KernelRfl
namespace Go.Proofs.Qxb6001094a
/- THE CELL 'sum', in the pinned program and in every row, IS THE sha256 OF THE DUMP (.gsa) THAT Qxb6001094aProg.lean LOADS. Nothing in Lean hashes anything: it is a label: what it is worth is what the hold of that sum in a sandbox is worth. -/
noncomputable def Try.pinned : Pinned := { name := "qxb6001094a", sum := "848a7b6e3ede6ddfee688f5a4a2dc7977547e4d9a3b51a792bfb17a3a4a233c3", checked := Try.checked }
namespace Rows
def none {H : Type} : Left H := { results := [], args := [] }

/-- 'zzlaws_sim_b1.FnEventsPopKeepsHeap': WHATEVER THE INPUT: true; the input reads as it did. -/
def fnEventsPopKeepsHeapSpec : ChangeSpec := { name := "fnEventsPopKeepsHeap", fn := fun _ => fun
  | [d] => { results := [.lit (.bool true)], args := [d] }
  | _ => none }
def fnEventsPopKeepsHeapRow : OpenClaim := { program := "qxb6001094a", sum := "848a7b6e3ede6ddfee688f5a4a2dc7977547e4d9a3b51a792bfb17a3a4a233c3", func := "example.com/entente/entente/zzlaws_sim_b1.FnEventsPopKeepsHeap", spec := "fnEventsPopKeepsHeap", recurses := true, apart := false }
def FnEventsPopKeepsHeapSaid : Prop := fnEventsPopKeepsHeapRow.holds Try.pinned (OpenSpec.ofChange fnEventsPopKeepsHeapSpec)

/-- ITS FALSE NEIGHBOUR: 'it returns false'. Refute it at one input. -/
def fnEventsPopKeepsHeapWrong : ChangeSpec := { name := "fnEventsPopKeepsHeap", fn := fun _ => fun
  | [d] => { results := [.lit (.bool false)], args := [d] }
  | _ => none }
def FnEventsPopKeepsHeapWrongFalsely : Prop := fnEventsPopKeepsHeapRow.holds Try.pinned (OpenSpec.ofChange fnEventsPopKeepsHeapWrong)

/-- 'zzlaws_sim_b1.FnEventsPopDrainsInOrder': WHATEVER THE INPUT: true; the input reads as it did. -/
def fnEventsPopDrainsInOrderSpec : ChangeSpec := { name := "fnEventsPopDrainsInOrder", fn := fun _ => fun
  | [d] => { results := [.lit (.bool true)], args := [d] }
  | _ => none }
def fnEventsPopDrainsInOrderRow : OpenClaim := { program := "qxb6001094a", sum := "848a7b6e3ede6ddfee688f5a4a2dc7977547e4d9a3b51a792bfb17a3a4a233c3", func := "example.com/entente/entente/zzlaws_sim_b1.FnEventsPopDrainsInOrder", spec := "fnEventsPopDrainsInOrder", recurses := true, apart := false }
def FnEventsPopDrainsInOrderSaid : Prop := fnEventsPopDrainsInOrderRow.holds Try.pinned (OpenSpec.ofChange fnEventsPopDrainsInOrderSpec)

/-- ITS FALSE NEIGHBOUR: 'it returns false'. Refute it at one input. -/
def fnEventsPopDrainsInOrderWrong : ChangeSpec := { name := "fnEventsPopDrainsInOrder", fn := fun _ => fun
  | [d] => { results := [.lit (.bool false)], args := [d] }
  | _ => none }
def FnEventsPopDrainsInOrderWrongFalsely : Prop := fnEventsPopDrainsInOrderRow.holds Try.pinned (OpenSpec.ofChange fnEventsPopDrainsInOrderWrong)

/-- 'zzlaws_sim_b1.FnJudgeDetectionsAreTheCrashed': WHATEVER THE INPUT: true; the input reads as it did. -/
def fnJudgeDetectionsAreTheCrashedSpec : ChangeSpec := { name := "fnJudgeDetectionsAreTheCrashed", fn := fun _ => fun
  | [d1, d2, d3, d4, d5] => { results := [.lit (.bool true)], args := [d1, d2, d3, d4, d5] }
  | _ => none }
def fnJudgeDetectionsAreTheCrashedRow : OpenClaim := { program := "qxb6001094a", sum := "848a7b6e3ede6ddfee688f5a4a2dc7977547e4d9a3b51a792bfb17a3a4a233c3", func := "example.com/entente/entente/zzlaws_sim_b1.FnJudgeDetectionsAreTheCrashed", spec := "fnJudgeDetectionsAreTheCrashed", apart := false }
def FnJudgeDetectionsAreTheCrashedSaid : Prop := fnJudgeDetectionsAreTheCrashedRow.holds Try.pinned (OpenSpec.ofChange fnJudgeDetectionsAreTheCrashedSpec)

/-- ITS FALSE NEIGHBOUR: 'it returns false'. Refute it at one input. -/
def fnJudgeDetectionsAreTheCrashedWrong : ChangeSpec := { name := "fnJudgeDetectionsAreTheCrashed", fn := fun _ => fun
  | [d1, d2, d3, d4, d5] => { results := [.lit (.bool false)], args := [d1, d2, d3, d4, d5] }
  | _ => none }
def FnJudgeDetectionsAreTheCrashedWrongFalsely : Prop := fnJudgeDetectionsAreTheCrashedRow.holds Try.pinned (OpenSpec.ofChange fnJudgeDetectionsAreTheCrashedWrong)

/-- 'zzlaws_sim_b1.FnJudgeSuspectedByAllIsEarliest': WHATEVER THE INPUT: true; the input reads as it did. -/
def fnJudgeSuspectedByAllIsEarliestSpec : ChangeSpec := { name := "fnJudgeSuspectedByAllIsEarliest", fn := fun _ => fun
  | [d1, d2, d3, d4, d5] => { results := [.lit (.bool true)], args := [d1, d2, d3, d4, d5] }
  | _ => none }
def fnJudgeSuspectedByAllIsEarliestRow : OpenClaim := { program := "qxb6001094a", sum := "848a7b6e3ede6ddfee688f5a4a2dc7977547e4d9a3b51a792bfb17a3a4a233c3", func := "example.com/entente/entente/zzlaws_sim_b1.FnJudgeSuspectedByAllIsEarliest", spec := "fnJudgeSuspectedByAllIsEarliest", apart := false }
def FnJudgeSuspectedByAllIsEarliestSaid : Prop := fnJudgeSuspectedByAllIsEarliestRow.holds Try.pinned (OpenSpec.ofChange fnJudgeSuspectedByAllIsEarliestSpec)

/-- ITS FALSE NEIGHBOUR: 'it returns false'. Refute it at one input. -/
def fnJudgeSuspectedByAllIsEarliestWrong : ChangeSpec := { name := "fnJudgeSuspectedByAllIsEarliest", fn := fun _ => fun
  | [d1, d2, d3, d4, d5] => { results := [.lit (.bool false)], args := [d1, d2, d3, d4, d5] }
  | _ => none }
def FnJudgeSuspectedByAllIsEarliestWrongFalsely : Prop := fnJudgeSuspectedByAllIsEarliestRow.holds Try.pinned (OpenSpec.ofChange fnJudgeSuspectedByAllIsEarliestWrong)

/-- 'zzlaws_sim_b1.FnJudgeAccuracyMonotone': WHATEVER THE INPUT: true; the input reads as it did. -/
def fnJudgeAccuracyMonotoneSpec : ChangeSpec := { name := "fnJudgeAccuracyMonotone", fn := fun _ => fun
  | [d1, d2, d3, d4, d5, d6] => { results := [.lit (.bool true)], args := [d1, d2, d3, d4, d5, d6] }
  | _ => none }
def fnJudgeAccuracyMonotoneRow : OpenClaim := { program := "qxb6001094a", sum := "848a7b6e3ede6ddfee688f5a4a2dc7977547e4d9a3b51a792bfb17a3a4a233c3", func := "example.com/entente/entente/zzlaws_sim_b1.FnJudgeAccuracyMonotone", spec := "fnJudgeAccuracyMonotone", apart := false }
def FnJudgeAccuracyMonotoneSaid : Prop := fnJudgeAccuracyMonotoneRow.holds Try.pinned (OpenSpec.ofChange fnJudgeAccuracyMonotoneSpec)

/-- ITS FALSE NEIGHBOUR: 'it returns false'. Refute it at one input. -/
def fnJudgeAccuracyMonotoneWrong : ChangeSpec := { name := "fnJudgeAccuracyMonotone", fn := fun _ => fun
  | [d1, d2, d3, d4, d5, d6] => { results := [.lit (.bool false)], args := [d1, d2, d3, d4, d5, d6] }
  | _ => none }
def FnJudgeAccuracyMonotoneWrongFalsely : Prop := fnJudgeAccuracyMonotoneRow.holds Try.pinned (OpenSpec.ofChange fnJudgeAccuracyMonotoneWrong)

/-- 'zzlaws_sim_b1.FnSigmaLastOutputsAreTheCorrect': WHATEVER THE INPUT: true; the input reads as it did. -/
def fnSigmaLastOutputsAreTheCorrectSpec : ChangeSpec := { name := "fnSigmaLastOutputsAreTheCorrect", fn := fun _ => fun
  | [d1, d2, d3, d4, d5, d6] => { results := [.lit (.bool true)], args := [d1, d2, d3, d4, d5, d6] }
  | _ => none }
def fnSigmaLastOutputsAreTheCorrectRow : OpenClaim := { program := "qxb6001094a", sum := "848a7b6e3ede6ddfee688f5a4a2dc7977547e4d9a3b51a792bfb17a3a4a233c3", func := "example.com/entente/entente/zzlaws_sim_b1.FnSigmaLastOutputsAreTheCorrect", spec := "fnSigmaLastOutputsAreTheCorrect", apart := false }
def FnSigmaLastOutputsAreTheCorrectSaid : Prop := fnSigmaLastOutputsAreTheCorrectRow.holds Try.pinned (OpenSpec.ofChange fnSigmaLastOutputsAreTheCorrectSpec)

/-- ITS FALSE NEIGHBOUR: 'it returns false'. Refute it at one input. -/
def fnSigmaLastOutputsAreTheCorrectWrong : ChangeSpec := { name := "fnSigmaLastOutputsAreTheCorrect", fn := fun _ => fun
  | [d1, d2, d3, d4, d5, d6] => { results := [.lit (.bool false)], args := [d1, d2, d3, d4, d5, d6] }
  | _ => none }
def FnSigmaLastOutputsAreTheCorrectWrongFalsely : Prop := fnSigmaLastOutputsAreTheCorrectRow.holds Try.pinned (OpenSpec.ofChange fnSigmaLastOutputsAreTheCorrectWrong)

/-- 'zzlaws_sim_b1.FnSigmaCompletenessExact': WHATEVER THE INPUT: true; the input reads as it did. -/
def fnSigmaCompletenessExactSpec : ChangeSpec := { name := "fnSigmaCompletenessExact", fn := fun _ => fun
  | [d1, d2, d3, d4, d5, d6, d7, d8] => { results := [.lit (.bool true)], args := [d1, d2, d3, d4, d5, d6, d7, d8] }
  | _ => none }
def fnSigmaCompletenessExactRow : OpenClaim := { program := "qxb6001094a", sum := "848a7b6e3ede6ddfee688f5a4a2dc7977547e4d9a3b51a792bfb17a3a4a233c3", func := "example.com/entente/entente/zzlaws_sim_b1.FnSigmaCompletenessExact", spec := "fnSigmaCompletenessExact", apart := false }
def FnSigmaCompletenessExactSaid : Prop := fnSigmaCompletenessExactRow.holds Try.pinned (OpenSpec.ofChange fnSigmaCompletenessExactSpec)

/-- ITS FALSE NEIGHBOUR: 'it returns false'. Refute it at one input. -/
def fnSigmaCompletenessExactWrong : ChangeSpec := { name := "fnSigmaCompletenessExact", fn := fun _ => fun
  | [d1, d2, d3, d4, d5, d6, d7, d8] => { results := [.lit (.bool false)], args := [d1, d2, d3, d4, d5, d6, d7, d8] }
  | _ => none }
def FnSigmaCompletenessExactWrongFalsely : Prop := fnSigmaCompletenessExactRow.holds Try.pinned (OpenSpec.ofChange fnSigmaCompletenessExactWrong)

/-- 'zzlaws_sim_b1.FnSigmaLeaderAgreed': WHATEVER THE INPUT: true; the input reads as it did. -/
def fnSigmaLeaderAgreedSpec : ChangeSpec := { name := "fnSigmaLeaderAgreed", fn := fun _ => fun
  | [d1, d2, d3, d4, d5, d6] => { results := [.lit (.bool true)], args := [d1, d2, d3, d4, d5, d6] }
  | _ => none }
def fnSigmaLeaderAgreedRow : OpenClaim := { program := "qxb6001094a", sum := "848a7b6e3ede6ddfee688f5a4a2dc7977547e4d9a3b51a792bfb17a3a4a233c3", func := "example.com/entente/entente/zzlaws_sim_b1.FnSigmaLeaderAgreed", spec := "fnSigmaLeaderAgreed", apart := false }
def FnSigmaLeaderAgreedSaid : Prop := fnSigmaLeaderAgreedRow.holds Try.pinned (OpenSpec.ofChange fnSigmaLeaderAgreedSpec)

/-- ITS FALSE NEIGHBOUR: 'it returns false'. Refute it at one input. -/
def fnSigmaLeaderAgreedWrong : ChangeSpec := { name := "fnSigmaLeaderAgreed", fn := fun _ => fun
  | [d1, d2, d3, d4, d5, d6] => { results := [.lit (.bool false)], args := [d1, d2, d3, d4, d5, d6] }
  | _ => none }
def FnSigmaLeaderAgreedWrongFalsely : Prop := fnSigmaLeaderAgreedRow.holds Try.pinned (OpenSpec.ofChange fnSigmaLeaderAgreedWrong)

end Rows
end Go.Proofs.Qxb6001094a
