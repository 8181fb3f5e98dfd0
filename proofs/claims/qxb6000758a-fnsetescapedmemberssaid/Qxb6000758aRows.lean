/-
  No cell of these rows narrows 'for every input' (looked for: loops, veiled, ifaces, maps, wideKeys, modest, calm, conditions, laid).
  DERIVED. THE GIVEN ROWS OF THIS SEAT. 8 by the template 'for every input the law returns true; each argument reads behind the call as it read before'; 0 by the template 'total and deterministic' (their statements: Qxb6000758aTotals.lean).
  GIVEN WITH THE SEED: the statements are not yours to turn. If you find one false, say at which input.
  Laid BY PROGRAM, IN A SANDBOX (cutbox-rows.mjs): the forced cells as the released guide's own fill.sh prints them over the translation d3fc41756f552359… (all of the seat's roots in one cut). By AI agents, Wed Nov 11 2026. No macro, syntax, notation, axiom, sorry.
-/
import Derived.Test.Qxb6000758aChecked
import GoSem.Claim
import GoSem.ClaimJoined
import GoSem.ClaimMapViews
import Derived.JoinedTies
import Derived.KernelRfl
namespace Go.Proofs.Qxb6000758a
/- THE CELL 'sum', in the pinned program and in every row, IS THE sha256 OF THE DUMP (.gsa) THAT Qxb6000758aProg.lean LOADS. Nothing in Lean hashes anything: it is a label: what it is worth is what the hold of that sum in a sandbox is worth. -/
noncomputable def Try.pinned : Pinned := { name := "qxb6000758a", sum := "d3fc41756f5523594cfb012f7d5c465347c78ef3410e927e728f2586eb80335f", checked := Try.checked }
namespace Rows
def none {H : Type} : Left H := { results := [], args := [] }

/-- 'zzlaws_internal_match_b1.FnIPv4RoundTrip': WHATEVER THE INPUT: true; the input reads as it did. -/
def fnIPv4RoundTripSpec : ChangeSpec := { name := "fnIPv4RoundTrip", fn := fun _ => fun
  | [d1, d2, d3, d4] => { results := [.lit (.bool true)], args := [d1, d2, d3, d4] }
  | _ => none }
def fnIPv4RoundTripRow : OpenClaim := { program := "qxb6000758a", sum := "d3fc41756f5523594cfb012f7d5c465347c78ef3410e927e728f2586eb80335f", func := "example.com/uni-cond/uni-cond/zzlaws_internal_match_b1.FnIPv4RoundTrip", spec := "fnIPv4RoundTrip", apart := false }
def FnIPv4RoundTripSaid : Prop := fnIPv4RoundTripRow.holds Try.pinned (OpenSpec.ofChange fnIPv4RoundTripSpec)

/-- ITS FALSE NEIGHBOUR: 'it returns false'. Refute it at one input. -/
def fnIPv4RoundTripWrong : ChangeSpec := { name := "fnIPv4RoundTrip", fn := fun _ => fun
  | [d1, d2, d3, d4] => { results := [.lit (.bool false)], args := [d1, d2, d3, d4] }
  | _ => none }
def FnIPv4RoundTripWrongFalsely : Prop := fnIPv4RoundTripRow.holds Try.pinned (OpenSpec.ofChange fnIPv4RoundTripWrong)

/-- 'zzlaws_internal_match_b1.FnIPv4AgreesWithSplitModel': WHATEVER THE INPUT: true; the input reads as it did. -/
def fnIPv4AgreesWithSplitModelSpec : ChangeSpec := { name := "fnIPv4AgreesWithSplitModel", fn := fun _ => fun
  | [d] => { results := [.lit (.bool true)], args := [d] }
  | _ => none }
def fnIPv4AgreesWithSplitModelRow : OpenClaim := { program := "qxb6000758a", sum := "d3fc41756f5523594cfb012f7d5c465347c78ef3410e927e728f2586eb80335f", func := "example.com/uni-cond/uni-cond/zzlaws_internal_match_b1.FnIPv4AgreesWithSplitModel", spec := "fnIPv4AgreesWithSplitModel", apart := false }
def FnIPv4AgreesWithSplitModelSaid : Prop := fnIPv4AgreesWithSplitModelRow.holds Try.pinned (OpenSpec.ofChange fnIPv4AgreesWithSplitModelSpec)

/-- ITS FALSE NEIGHBOUR: 'it returns false'. Refute it at one input. -/
def fnIPv4AgreesWithSplitModelWrong : ChangeSpec := { name := "fnIPv4AgreesWithSplitModel", fn := fun _ => fun
  | [d] => { results := [.lit (.bool false)], args := [d] }
  | _ => none }
def FnIPv4AgreesWithSplitModelWrongFalsely : Prop := fnIPv4AgreesWithSplitModelRow.holds Try.pinned (OpenSpec.ofChange fnIPv4AgreesWithSplitModelWrong)

/-- 'zzlaws_internal_match_b1.FnGReferenceReadsWhatWasWritten': WHATEVER THE INPUT: true; the input reads as it did. -/
def fnGReferenceReadsWhatWasWrittenSpec : ChangeSpec := { name := "fnGReferenceReadsWhatWasWritten", fn := fun _ => fun
  | [d1, d2, d3, d4] => { results := [.lit (.bool true)], args := [d1, d2, d3, d4] }
  | _ => none }
def fnGReferenceReadsWhatWasWrittenRow : OpenClaim := { program := "qxb6000758a", sum := "d3fc41756f5523594cfb012f7d5c465347c78ef3410e927e728f2586eb80335f", func := "example.com/uni-cond/uni-cond/zzlaws_internal_match_b1.FnGReferenceReadsWhatWasWritten", spec := "fnGReferenceReadsWhatWasWritten", apart := false }
def FnGReferenceReadsWhatWasWrittenSaid : Prop := fnGReferenceReadsWhatWasWrittenRow.holds Try.pinned (OpenSpec.ofChange fnGReferenceReadsWhatWasWrittenSpec)

/-- ITS FALSE NEIGHBOUR: 'it returns false'. Refute it at one input. -/
def fnGReferenceReadsWhatWasWrittenWrong : ChangeSpec := { name := "fnGReferenceReadsWhatWasWritten", fn := fun _ => fun
  | [d1, d2, d3, d4] => { results := [.lit (.bool false)], args := [d1, d2, d3, d4] }
  | _ => none }
def FnGReferenceReadsWhatWasWrittenWrongFalsely : Prop := fnGReferenceReadsWhatWasWrittenRow.holds Try.pinned (OpenSpec.ofChange fnGReferenceReadsWhatWasWrittenWrong)

/-- 'zzlaws_internal_match_b1.FnGReferenceReadsAPrefix': WHATEVER THE INPUT: true; the input reads as it did. -/
def fnGReferenceReadsAPrefixSpec : ChangeSpec := { name := "fnGReferenceReadsAPrefix", fn := fun _ => fun
  | [d] => { results := [.lit (.bool true)], args := [d] }
  | _ => none }
def fnGReferenceReadsAPrefixRow : OpenClaim := { program := "qxb6000758a", sum := "d3fc41756f5523594cfb012f7d5c465347c78ef3410e927e728f2586eb80335f", func := "example.com/uni-cond/uni-cond/zzlaws_internal_match_b1.FnGReferenceReadsAPrefix", spec := "fnGReferenceReadsAPrefix", apart := false }
def FnGReferenceReadsAPrefixSaid : Prop := fnGReferenceReadsAPrefixRow.holds Try.pinned (OpenSpec.ofChange fnGReferenceReadsAPrefixSpec)

/-- ITS FALSE NEIGHBOUR: 'it returns false'. Refute it at one input. -/
def fnGReferenceReadsAPrefixWrong : ChangeSpec := { name := "fnGReferenceReadsAPrefix", fn := fun _ => fun
  | [d] => { results := [.lit (.bool false)], args := [d] }
  | _ => none }
def FnGReferenceReadsAPrefixWrongFalsely : Prop := fnGReferenceReadsAPrefixRow.holds Try.pinned (OpenSpec.ofChange fnGReferenceReadsAPrefixWrong)

/-- 'zzlaws_internal_match_b1.FnGReferenceUnclosedBraceRefused': WHATEVER THE INPUT: true; the input reads as it did. -/
def fnGReferenceUnclosedBraceRefusedSpec : ChangeSpec := { name := "fnGReferenceUnclosedBraceRefused", fn := fun _ => fun
  | [d] => { results := [.lit (.bool true)], args := [d] }
  | _ => none }
def fnGReferenceUnclosedBraceRefusedRow : OpenClaim := { program := "qxb6000758a", sum := "d3fc41756f5523594cfb012f7d5c465347c78ef3410e927e728f2586eb80335f", func := "example.com/uni-cond/uni-cond/zzlaws_internal_match_b1.FnGReferenceUnclosedBraceRefused", spec := "fnGReferenceUnclosedBraceRefused", apart := false }
def FnGReferenceUnclosedBraceRefusedSaid : Prop := fnGReferenceUnclosedBraceRefusedRow.holds Try.pinned (OpenSpec.ofChange fnGReferenceUnclosedBraceRefusedSpec)

/-- ITS FALSE NEIGHBOUR: 'it returns false'. Refute it at one input. -/
def fnGReferenceUnclosedBraceRefusedWrong : ChangeSpec := { name := "fnGReferenceUnclosedBraceRefused", fn := fun _ => fun
  | [d] => { results := [.lit (.bool false)], args := [d] }
  | _ => none }
def FnGReferenceUnclosedBraceRefusedWrongFalsely : Prop := fnGReferenceUnclosedBraceRefusedRow.holds Try.pinned (OpenSpec.ofChange fnGReferenceUnclosedBraceRefusedWrong)

/-- 'zzlaws_internal_match_b1.FnSetEscapedMembers': WHATEVER THE INPUT: true; the input reads as it did. -/
def fnSetEscapedMembersSpec : ChangeSpec := { name := "fnSetEscapedMembers", fn := fun _ => fun
  | [d1, d2, d3, d4, d5] => { results := [.lit (.bool true)], args := [d1, d2, d3, d4, d5] }
  | _ => none }
def fnSetEscapedMembersRow : OpenClaim := { program := "qxb6000758a", sum := "d3fc41756f5523594cfb012f7d5c465347c78ef3410e927e728f2586eb80335f", func := "example.com/uni-cond/uni-cond/zzlaws_internal_match_b1.FnSetEscapedMembers", spec := "fnSetEscapedMembers", apart := false }
def FnSetEscapedMembersSaid : Prop := fnSetEscapedMembersRow.holds Try.pinned (OpenSpec.ofChange fnSetEscapedMembersSpec)

/-- ITS FALSE NEIGHBOUR: 'it returns false'. Refute it at one input. -/
def fnSetEscapedMembersWrong : ChangeSpec := { name := "fnSetEscapedMembers", fn := fun _ => fun
  | [d1, d2, d3, d4, d5] => { results := [.lit (.bool false)], args := [d1, d2, d3, d4, d5] }
  | _ => none }
def FnSetEscapedMembersWrongFalsely : Prop := fnSetEscapedMembersRow.holds Try.pinned (OpenSpec.ofChange fnSetEscapedMembersWrong)

/-- 'zzlaws_internal_match_b1.FnSetRange': WHATEVER THE INPUT: true; the input reads as it did. -/
def fnSetRangeSpec : ChangeSpec := { name := "fnSetRange", fn := fun _ => fun
  | [d1, d2, d3, d4, d5, d6] => { results := [.lit (.bool true)], args := [d1, d2, d3, d4, d5, d6] }
  | _ => none }
def fnSetRangeRow : OpenClaim := { program := "qxb6000758a", sum := "d3fc41756f5523594cfb012f7d5c465347c78ef3410e927e728f2586eb80335f", func := "example.com/uni-cond/uni-cond/zzlaws_internal_match_b1.FnSetRange", spec := "fnSetRange", apart := false }
def FnSetRangeSaid : Prop := fnSetRangeRow.holds Try.pinned (OpenSpec.ofChange fnSetRangeSpec)

/-- ITS FALSE NEIGHBOUR: 'it returns false'. Refute it at one input. -/
def fnSetRangeWrong : ChangeSpec := { name := "fnSetRange", fn := fun _ => fun
  | [d1, d2, d3, d4, d5, d6] => { results := [.lit (.bool false)], args := [d1, d2, d3, d4, d5, d6] }
  | _ => none }
def FnSetRangeWrongFalsely : Prop := fnSetRangeRow.holds Try.pinned (OpenSpec.ofChange fnSetRangeWrong)

/-- 'zzlaws_internal_match_b1.FnSetRefusalStopsInnerSets': WHATEVER THE INPUT: true; the input reads as it did. -/
def fnSetRefusalStopsInnerSetsSpec : ChangeSpec := { name := "fnSetRefusalStopsInnerSets", fn := fun _ => fun
  | [d1, d2, d3, d4] => { results := [.lit (.bool true)], args := [d1, d2, d3, d4] }
  | _ => none }
def fnSetRefusalStopsInnerSetsRow : OpenClaim := { program := "qxb6000758a", sum := "d3fc41756f5523594cfb012f7d5c465347c78ef3410e927e728f2586eb80335f", func := "example.com/uni-cond/uni-cond/zzlaws_internal_match_b1.FnSetRefusalStopsInnerSets", spec := "fnSetRefusalStopsInnerSets", apart := false }
def FnSetRefusalStopsInnerSetsSaid : Prop := fnSetRefusalStopsInnerSetsRow.holds Try.pinned (OpenSpec.ofChange fnSetRefusalStopsInnerSetsSpec)

/-- ITS FALSE NEIGHBOUR: 'it returns false'. Refute it at one input. -/
def fnSetRefusalStopsInnerSetsWrong : ChangeSpec := { name := "fnSetRefusalStopsInnerSets", fn := fun _ => fun
  | [d1, d2, d3, d4] => { results := [.lit (.bool false)], args := [d1, d2, d3, d4] }
  | _ => none }
def FnSetRefusalStopsInnerSetsWrongFalsely : Prop := fnSetRefusalStopsInnerSetsRow.holds Try.pinned (OpenSpec.ofChange fnSetRefusalStopsInnerSetsWrong)

end Rows
end Go.Proofs.Qxb6000758a
