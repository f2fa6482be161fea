/-
  No cell of these rows narrows 'for every input' (looked for: loops, veiled, ifaces, maps, wideKeys, modest, calm, conditions, laid).
  DERIVED. THE GIVEN ROWS OF THIS SEAT. 7 by the template 'for every input the law returns true; each argument reads behind the call as it read before'; 0 by the template 'total and deterministic' (their statements: Qxb6001416aTotals.lean).
  GIVEN WITH THE SEED: the statements are not yours to turn. If you find one false, say at which input.
  Laid BY PROGRAM, IN A SANDBOX (cutbox-rows.mjs): the forced cells as the released guide's own fill.sh prints them over the translation 3223fbc986f62a1b… (all of the seat's roots in one cut). By AI agents, Wed Nov 11 2026. No macro, syntax, notation, axiom, sorry.
-/
import Derived.Test.Qxb6001416aChecked
import GoSem.Claim
import GoSem.ClaimJoined
import GoSem.ClaimMapViews
import Derived.JoinedTies
import Derived.KernelRfl
namespace Go.Proofs.Qxb6001416a
/- THE CELL 'sum', in the pinned program and in every row, IS THE sha256 OF THE DUMP (.gsa) THAT Qxb6001416aProg.lean LOADS. Nothing in Lean hashes anything: it is a label: what it is worth is what the hold of that sum in a sandbox is worth. -/
noncomputable def Try.pinned : Pinned := { name := "qxb6001416a", sum := "3223fbc986f62a1b4d709e2157f3cccef5ffc185fccb13383d665acc2e8cb048", checked := Try.checked }
namespace Rows
def none {H : Type} : Left H := { results := [], args := [] }

/-- 'zzlaws_pkg_input_b1.FnScanDecimalRoundTrip': WHATEVER THE INPUT: true; the input reads as it did. -/
def fnScanDecimalRoundTripSpec : ChangeSpec := { name := "fnScanDecimalRoundTrip", fn := fun _ => fun
  | [d1, d2] => { results := [.lit (.bool true)], args := [d1, d2] }
  | _ => none }
def fnScanDecimalRoundTripRow : OpenClaim := { program := "qxb6001416a", sum := "3223fbc986f62a1b4d709e2157f3cccef5ffc185fccb13383d665acc2e8cb048", func := "example.com/tuoguan/tuoguan/zzlaws_pkg_input_b1.FnScanDecimalRoundTrip", spec := "fnScanDecimalRoundTrip", apart := false }
def FnScanDecimalRoundTripSaid : Prop := fnScanDecimalRoundTripRow.holds Try.pinned (OpenSpec.ofChange fnScanDecimalRoundTripSpec)

/-- ITS FALSE NEIGHBOUR: 'it returns false'. Refute it at one input. -/
def fnScanDecimalRoundTripWrong : ChangeSpec := { name := "fnScanDecimalRoundTrip", fn := fun _ => fun
  | [d1, d2] => { results := [.lit (.bool false)], args := [d1, d2] }
  | _ => none }
def FnScanDecimalRoundTripWrongFalsely : Prop := fnScanDecimalRoundTripRow.holds Try.pinned (OpenSpec.ofChange fnScanDecimalRoundTripWrong)

/-- 'zzlaws_pkg_input_b1.FnScanDecimalAcceptsExactlyTheGrammar': WHATEVER THE INPUT: true; the input reads as it did. -/
def fnScanDecimalAcceptsExactlyTheGrammarSpec : ChangeSpec := { name := "fnScanDecimalAcceptsExactlyTheGrammar", fn := fun _ => fun
  | [d] => { results := [.lit (.bool true)], args := [d] }
  | _ => none }
def fnScanDecimalAcceptsExactlyTheGrammarRow : OpenClaim := { program := "qxb6001416a", sum := "3223fbc986f62a1b4d709e2157f3cccef5ffc185fccb13383d665acc2e8cb048", func := "example.com/tuoguan/tuoguan/zzlaws_pkg_input_b1.FnScanDecimalAcceptsExactlyTheGrammar", spec := "fnScanDecimalAcceptsExactlyTheGrammar", apart := false }
def FnScanDecimalAcceptsExactlyTheGrammarSaid : Prop := fnScanDecimalAcceptsExactlyTheGrammarRow.holds Try.pinned (OpenSpec.ofChange fnScanDecimalAcceptsExactlyTheGrammarSpec)

/-- ITS FALSE NEIGHBOUR: 'it returns false'. Refute it at one input. -/
def fnScanDecimalAcceptsExactlyTheGrammarWrong : ChangeSpec := { name := "fnScanDecimalAcceptsExactlyTheGrammar", fn := fun _ => fun
  | [d] => { results := [.lit (.bool false)], args := [d] }
  | _ => none }
def FnScanDecimalAcceptsExactlyTheGrammarWrongFalsely : Prop := fnScanDecimalAcceptsExactlyTheGrammarRow.holds Try.pinned (OpenSpec.ofChange fnScanDecimalAcceptsExactlyTheGrammarWrong)

/-- 'zzlaws_pkg_input_b1.FnScanDecimalNegationSymmetric': WHATEVER THE INPUT: true; the input reads as it did. -/
def fnScanDecimalNegationSymmetricSpec : ChangeSpec := { name := "fnScanDecimalNegationSymmetric", fn := fun _ => fun
  | [d] => { results := [.lit (.bool true)], args := [d] }
  | _ => none }
def fnScanDecimalNegationSymmetricRow : OpenClaim := { program := "qxb6001416a", sum := "3223fbc986f62a1b4d709e2157f3cccef5ffc185fccb13383d665acc2e8cb048", func := "example.com/tuoguan/tuoguan/zzlaws_pkg_input_b1.FnScanDecimalNegationSymmetric", spec := "fnScanDecimalNegationSymmetric", apart := false }
def FnScanDecimalNegationSymmetricSaid : Prop := fnScanDecimalNegationSymmetricRow.holds Try.pinned (OpenSpec.ofChange fnScanDecimalNegationSymmetricSpec)

/-- ITS FALSE NEIGHBOUR: 'it returns false'. Refute it at one input. -/
def fnScanDecimalNegationSymmetricWrong : ChangeSpec := { name := "fnScanDecimalNegationSymmetric", fn := fun _ => fun
  | [d] => { results := [.lit (.bool false)], args := [d] }
  | _ => none }
def FnScanDecimalNegationSymmetricWrongFalsely : Prop := fnScanDecimalNegationSymmetricRow.holds Try.pinned (OpenSpec.ofChange fnScanDecimalNegationSymmetricWrong)

/-- 'zzlaws_pkg_input_b1.FnPosSkipsOnlySeparators': WHATEVER THE INPUT: true; the input reads as it did. -/
def fnPosSkipsOnlySeparatorsSpec : ChangeSpec := { name := "fnPosSkipsOnlySeparators", fn := fun _ => fun
  | [d1, d2, d3, d4] => { results := [.lit (.bool true)], args := [d1, d2, d3, d4] }
  | _ => none }
def fnPosSkipsOnlySeparatorsRow : OpenClaim := { program := "qxb6001416a", sum := "3223fbc986f62a1b4d709e2157f3cccef5ffc185fccb13383d665acc2e8cb048", func := "example.com/tuoguan/tuoguan/zzlaws_pkg_input_b1.FnPosSkipsOnlySeparators", spec := "fnPosSkipsOnlySeparators", apart := false }
def FnPosSkipsOnlySeparatorsSaid : Prop := fnPosSkipsOnlySeparatorsRow.holds Try.pinned (OpenSpec.ofChange fnPosSkipsOnlySeparatorsSpec)

/-- ITS FALSE NEIGHBOUR: 'it returns false'. Refute it at one input. -/
def fnPosSkipsOnlySeparatorsWrong : ChangeSpec := { name := "fnPosSkipsOnlySeparators", fn := fun _ => fun
  | [d1, d2, d3, d4] => { results := [.lit (.bool false)], args := [d1, d2, d3, d4] }
  | _ => none }
def FnPosSkipsOnlySeparatorsWrongFalsely : Prop := fnPosSkipsOnlySeparatorsRow.holds Try.pinned (OpenSpec.ofChange fnPosSkipsOnlySeparatorsWrong)

/-- 'zzlaws_pkg_input_b1.FnPosIdempotent': WHATEVER THE INPUT: true; the input reads as it did. -/
def fnPosIdempotentSpec : ChangeSpec := { name := "fnPosIdempotent", fn := fun _ => fun
  | [d1, d2, d3, d4] => { results := [.lit (.bool true)], args := [d1, d2, d3, d4] }
  | _ => none }
def fnPosIdempotentRow : OpenClaim := { program := "qxb6001416a", sum := "3223fbc986f62a1b4d709e2157f3cccef5ffc185fccb13383d665acc2e8cb048", func := "example.com/tuoguan/tuoguan/zzlaws_pkg_input_b1.FnPosIdempotent", spec := "fnPosIdempotent", apart := false }
def FnPosIdempotentSaid : Prop := fnPosIdempotentRow.holds Try.pinned (OpenSpec.ofChange fnPosIdempotentSpec)

/-- ITS FALSE NEIGHBOUR: 'it returns false'. Refute it at one input. -/
def fnPosIdempotentWrong : ChangeSpec := { name := "fnPosIdempotent", fn := fun _ => fun
  | [d1, d2, d3, d4] => { results := [.lit (.bool false)], args := [d1, d2, d3, d4] }
  | _ => none }
def FnPosIdempotentWrongFalsely : Prop := fnPosIdempotentRow.holds Try.pinned (OpenSpec.ofChange fnPosIdempotentWrong)

/-- 'zzlaws_pkg_input_b1.FnJoinAssociative': WHATEVER THE INPUT: true; the input reads as it did. -/
def fnJoinAssociativeSpec : ChangeSpec := { name := "fnJoinAssociative", fn := fun _ => fun
  | [d1, d2, d3] => { results := [.lit (.bool true)], args := [d1, d2, d3] }
  | _ => none }
def fnJoinAssociativeRow : OpenClaim := { program := "qxb6001416a", sum := "3223fbc986f62a1b4d709e2157f3cccef5ffc185fccb13383d665acc2e8cb048", func := "example.com/tuoguan/tuoguan/zzlaws_pkg_input_b1.FnJoinAssociative", spec := "fnJoinAssociative", apart := false }
def FnJoinAssociativeSaid : Prop := fnJoinAssociativeRow.holds Try.pinned (OpenSpec.ofChange fnJoinAssociativeSpec)

/-- ITS FALSE NEIGHBOUR: 'it returns false'. Refute it at one input. -/
def fnJoinAssociativeWrong : ChangeSpec := { name := "fnJoinAssociative", fn := fun _ => fun
  | [d1, d2, d3] => { results := [.lit (.bool false)], args := [d1, d2, d3] }
  | _ => none }
def FnJoinAssociativeWrongFalsely : Prop := fnJoinAssociativeRow.holds Try.pinned (OpenSpec.ofChange fnJoinAssociativeWrong)

/-- 'zzlaws_pkg_input_b1.FnJoinSplitsBack': WHATEVER THE INPUT: true; the input reads as it did. -/
def fnJoinSplitsBackSpec : ChangeSpec := { name := "fnJoinSplitsBack", fn := fun _ => fun
  | [d1, d2] => { results := [.lit (.bool true)], args := [d1, d2] }
  | _ => none }
def fnJoinSplitsBackRow : OpenClaim := { program := "qxb6001416a", sum := "3223fbc986f62a1b4d709e2157f3cccef5ffc185fccb13383d665acc2e8cb048", func := "example.com/tuoguan/tuoguan/zzlaws_pkg_input_b1.FnJoinSplitsBack", spec := "fnJoinSplitsBack", apart := false }
def FnJoinSplitsBackSaid : Prop := fnJoinSplitsBackRow.holds Try.pinned (OpenSpec.ofChange fnJoinSplitsBackSpec)

/-- ITS FALSE NEIGHBOUR: 'it returns false'. Refute it at one input. -/
def fnJoinSplitsBackWrong : ChangeSpec := { name := "fnJoinSplitsBack", fn := fun _ => fun
  | [d1, d2] => { results := [.lit (.bool false)], args := [d1, d2] }
  | _ => none }
def FnJoinSplitsBackWrongFalsely : Prop := fnJoinSplitsBackRow.holds Try.pinned (OpenSpec.ofChange fnJoinSplitsBackWrong)

end Rows
end Go.Proofs.Qxb6001416a
