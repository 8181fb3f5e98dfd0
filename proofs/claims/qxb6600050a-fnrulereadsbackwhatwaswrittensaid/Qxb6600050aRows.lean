/-
  No cell of these rows narrows 'for every input' (looked for: loops, veiled, ifaces, maps, wideKeys, modest, calm, conditions, laid).
  DERIVED. THE GIVEN ROWS OF THIS SEAT. 9 by the template 'for every input the law returns true; each argument reads behind the call as it read before'; 0 by the template 'total and deterministic' (their statements: Qxb6600050aTotals.lean).
  GIVEN WITH THE SEED: the statements are not yours to turn. If you find one false, say at which input.
  Laid BY PROGRAM, IN A SANDBOX (cutbox-rows.mjs): the forced cells as the released guide's own fill.sh prints them over the translation f86ada2de1e5f31f… (all of the seat's roots in one cut). By AI agents, Wed Nov 11 2026. No macro, syntax, notation, axiom, sorry.
-/
import Derived.Test.Qxb6600050aChecked
import GoSem.Claim
import GoSem.ClaimJoined
import GoSem.ClaimMapViews
import Derived.JoinedTies
import Derived.KernelRfl
namespace Go.Proofs.Qxb6600050a
/- THE CELL 'sum', in the pinned program and in every row, IS THE sha256 OF THE DUMP (.gsa) THAT Qxb6600050aProg.lean LOADS. Nothing in Lean hashes anything: it is a label: what it is worth is what the hold of that sum in a sandbox is worth. -/
noncomputable def Try.pinned : Pinned := { name := "qxb6600050a", sum := "f86ada2de1e5f31f450237bd2c4c1b5f66eb940420411286bf82c4af651232e8", checked := Try.checked }
namespace Rows
def none {H : Type} : Left H := { results := [], args := [] }

/-- 'zzlaws_tz_b1.FnNumberMatchesDecimalModel': WHATEVER THE INPUT: true; the input reads as it did. -/
def fnNumberMatchesDecimalModelSpec : ChangeSpec := { name := "fnNumberMatchesDecimalModel", fn := fun _ => fun
  | [d1, d2, d3, d4] => { results := [.lit (.bool true)], args := [d1, d2, d3, d4] }
  | _ => none }
def fnNumberMatchesDecimalModelRow : OpenClaim := { program := "qxb6600050a", sum := "f86ada2de1e5f31f450237bd2c4c1b5f66eb940420411286bf82c4af651232e8", func := "example.com/tributary/tributary/zzlaws_tz_b1.FnNumberMatchesDecimalModel", spec := "fnNumberMatchesDecimalModel", apart := false }
def FnNumberMatchesDecimalModelSaid : Prop := fnNumberMatchesDecimalModelRow.holds Try.pinned (OpenSpec.ofChange fnNumberMatchesDecimalModelSpec)

/-- ITS FALSE NEIGHBOUR: 'it returns false'. Refute it at one input. -/
def fnNumberMatchesDecimalModelWrong : ChangeSpec := { name := "fnNumberMatchesDecimalModel", fn := fun _ => fun
  | [d1, d2, d3, d4] => { results := [.lit (.bool false)], args := [d1, d2, d3, d4] }
  | _ => none }
def FnNumberMatchesDecimalModelWrongFalsely : Prop := fnNumberMatchesDecimalModelRow.holds Try.pinned (OpenSpec.ofChange fnNumberMatchesDecimalModelWrong)

/-- 'zzlaws_tz_b1.FnNumberReadsBackWhatItoaWrote': WHATEVER THE INPUT: true; the input reads as it did. -/
def fnNumberReadsBackWhatItoaWroteSpec : ChangeSpec := { name := "fnNumberReadsBackWhatItoaWrote", fn := fun _ => fun
  | [d1, d2, d3, d4, d5] => { results := [.lit (.bool true)], args := [d1, d2, d3, d4, d5] }
  | _ => none }
def fnNumberReadsBackWhatItoaWroteRow : OpenClaim := { program := "qxb6600050a", sum := "f86ada2de1e5f31f450237bd2c4c1b5f66eb940420411286bf82c4af651232e8", func := "example.com/tributary/tributary/zzlaws_tz_b1.FnNumberReadsBackWhatItoaWrote", spec := "fnNumberReadsBackWhatItoaWrote", apart := false }
def FnNumberReadsBackWhatItoaWroteSaid : Prop := fnNumberReadsBackWhatItoaWroteRow.holds Try.pinned (OpenSpec.ofChange fnNumberReadsBackWhatItoaWroteSpec)

/-- ITS FALSE NEIGHBOUR: 'it returns false'. Refute it at one input. -/
def fnNumberReadsBackWhatItoaWroteWrong : ChangeSpec := { name := "fnNumberReadsBackWhatItoaWrote", fn := fun _ => fun
  | [d1, d2, d3, d4, d5] => { results := [.lit (.bool false)], args := [d1, d2, d3, d4, d5] }
  | _ => none }
def FnNumberReadsBackWhatItoaWroteWrongFalsely : Prop := fnNumberReadsBackWhatItoaWroteRow.holds Try.pinned (OpenSpec.ofChange fnNumberReadsBackWhatItoaWroteWrong)

/-- 'zzlaws_tz_b1.FnNumberWiderBoundsKeepAnAnswer': WHATEVER THE INPUT: true; the input reads as it did. -/
def fnNumberWiderBoundsKeepAnAnswerSpec : ChangeSpec := { name := "fnNumberWiderBoundsKeepAnAnswer", fn := fun _ => fun
  | [d1, d2, d3, d4, d5, d6] => { results := [.lit (.bool true)], args := [d1, d2, d3, d4, d5, d6] }
  | _ => none }
def fnNumberWiderBoundsKeepAnAnswerRow : OpenClaim := { program := "qxb6600050a", sum := "f86ada2de1e5f31f450237bd2c4c1b5f66eb940420411286bf82c4af651232e8", func := "example.com/tributary/tributary/zzlaws_tz_b1.FnNumberWiderBoundsKeepAnAnswer", spec := "fnNumberWiderBoundsKeepAnAnswer", apart := false }
def FnNumberWiderBoundsKeepAnAnswerSaid : Prop := fnNumberWiderBoundsKeepAnAnswerRow.holds Try.pinned (OpenSpec.ofChange fnNumberWiderBoundsKeepAnAnswerSpec)

/-- ITS FALSE NEIGHBOUR: 'it returns false'. Refute it at one input. -/
def fnNumberWiderBoundsKeepAnAnswerWrong : ChangeSpec := { name := "fnNumberWiderBoundsKeepAnAnswer", fn := fun _ => fun
  | [d1, d2, d3, d4, d5, d6] => { results := [.lit (.bool false)], args := [d1, d2, d3, d4, d5, d6] }
  | _ => none }
def FnNumberWiderBoundsKeepAnAnswerWrongFalsely : Prop := fnNumberWiderBoundsKeepAnAnswerRow.holds Try.pinned (OpenSpec.ofChange fnNumberWiderBoundsKeepAnAnswerWrong)

/-- 'zzlaws_tz_b1.FnOffsetReadsBackWhatWasWritten': WHATEVER THE INPUT: true; the input reads as it did. -/
def fnOffsetReadsBackWhatWasWrittenSpec : ChangeSpec := { name := "fnOffsetReadsBackWhatWasWritten", fn := fun _ => fun
  | [d1, d2, d3, d4, d5, d6, d7, d8, d9, d10] => { results := [.lit (.bool true)], args := [d1, d2, d3, d4, d5, d6, d7, d8, d9, d10] }
  | _ => none }
def fnOffsetReadsBackWhatWasWrittenRow : OpenClaim := { program := "qxb6600050a", sum := "f86ada2de1e5f31f450237bd2c4c1b5f66eb940420411286bf82c4af651232e8", func := "example.com/tributary/tributary/zzlaws_tz_b1.FnOffsetReadsBackWhatWasWritten", spec := "fnOffsetReadsBackWhatWasWritten", apart := false }
def FnOffsetReadsBackWhatWasWrittenSaid : Prop := fnOffsetReadsBackWhatWasWrittenRow.holds Try.pinned (OpenSpec.ofChange fnOffsetReadsBackWhatWasWrittenSpec)

/-- ITS FALSE NEIGHBOUR: 'it returns false'. Refute it at one input. -/
def fnOffsetReadsBackWhatWasWrittenWrong : ChangeSpec := { name := "fnOffsetReadsBackWhatWasWritten", fn := fun _ => fun
  | [d1, d2, d3, d4, d5, d6, d7, d8, d9, d10] => { results := [.lit (.bool false)], args := [d1, d2, d3, d4, d5, d6, d7, d8, d9, d10] }
  | _ => none }
def FnOffsetReadsBackWhatWasWrittenWrongFalsely : Prop := fnOffsetReadsBackWhatWasWrittenRow.holds Try.pinned (OpenSpec.ofChange fnOffsetReadsBackWhatWasWrittenWrong)

/-- 'zzlaws_tz_b1.FnOffsetStaysWithinAWeek': WHATEVER THE INPUT: true; the input reads as it did. -/
def fnOffsetStaysWithinAWeekSpec : ChangeSpec := { name := "fnOffsetStaysWithinAWeek", fn := fun _ => fun
  | [d1, d2] => { results := [.lit (.bool true)], args := [d1, d2] }
  | _ => none }
def fnOffsetStaysWithinAWeekRow : OpenClaim := { program := "qxb6600050a", sum := "f86ada2de1e5f31f450237bd2c4c1b5f66eb940420411286bf82c4af651232e8", func := "example.com/tributary/tributary/zzlaws_tz_b1.FnOffsetStaysWithinAWeek", spec := "fnOffsetStaysWithinAWeek", apart := false }
def FnOffsetStaysWithinAWeekSaid : Prop := fnOffsetStaysWithinAWeekRow.holds Try.pinned (OpenSpec.ofChange fnOffsetStaysWithinAWeekSpec)

/-- ITS FALSE NEIGHBOUR: 'it returns false'. Refute it at one input. -/
def fnOffsetStaysWithinAWeekWrong : ChangeSpec := { name := "fnOffsetStaysWithinAWeek", fn := fun _ => fun
  | [d1, d2] => { results := [.lit (.bool false)], args := [d1, d2] }
  | _ => none }
def FnOffsetStaysWithinAWeekWrongFalsely : Prop := fnOffsetStaysWithinAWeekRow.holds Try.pinned (OpenSpec.ofChange fnOffsetStaysWithinAWeekWrong)

/-- 'zzlaws_tz_b1.FnOffsetRefusesOutOfRangeParts': WHATEVER THE INPUT: true; the input reads as it did. -/
def fnOffsetRefusesOutOfRangePartsSpec : ChangeSpec := { name := "fnOffsetRefusesOutOfRangeParts", fn := fun _ => fun
  | [d1, d2, d3, d4, d5, d6, d7, d8, d9, d10] => { results := [.lit (.bool true)], args := [d1, d2, d3, d4, d5, d6, d7, d8, d9, d10] }
  | _ => none }
def fnOffsetRefusesOutOfRangePartsRow : OpenClaim := { program := "qxb6600050a", sum := "f86ada2de1e5f31f450237bd2c4c1b5f66eb940420411286bf82c4af651232e8", func := "example.com/tributary/tributary/zzlaws_tz_b1.FnOffsetRefusesOutOfRangeParts", spec := "fnOffsetRefusesOutOfRangeParts", apart := false }
def FnOffsetRefusesOutOfRangePartsSaid : Prop := fnOffsetRefusesOutOfRangePartsRow.holds Try.pinned (OpenSpec.ofChange fnOffsetRefusesOutOfRangePartsSpec)

/-- ITS FALSE NEIGHBOUR: 'it returns false'. Refute it at one input. -/
def fnOffsetRefusesOutOfRangePartsWrong : ChangeSpec := { name := "fnOffsetRefusesOutOfRangeParts", fn := fun _ => fun
  | [d1, d2, d3, d4, d5, d6, d7, d8, d9, d10] => { results := [.lit (.bool false)], args := [d1, d2, d3, d4, d5, d6, d7, d8, d9, d10] }
  | _ => none }
def FnOffsetRefusesOutOfRangePartsWrongFalsely : Prop := fnOffsetRefusesOutOfRangePartsRow.holds Try.pinned (OpenSpec.ofChange fnOffsetRefusesOutOfRangePartsWrong)

/-- 'zzlaws_tz_b1.FnRuleReadsBackWhatWasWritten': WHATEVER THE INPUT: true; the input reads as it did. -/
def fnRuleReadsBackWhatWasWrittenSpec : ChangeSpec := { name := "fnRuleReadsBackWhatWasWritten", fn := fun _ => fun
  | [d1, d2, d3, d4, d5, d6, d7, d8, d9, d10, d11, d12] => { results := [.lit (.bool true)], args := [d1, d2, d3, d4, d5, d6, d7, d8, d9, d10, d11, d12] }
  | _ => none }
def fnRuleReadsBackWhatWasWrittenRow : OpenClaim := { program := "qxb6600050a", sum := "f86ada2de1e5f31f450237bd2c4c1b5f66eb940420411286bf82c4af651232e8", func := "example.com/tributary/tributary/zzlaws_tz_b1.FnRuleReadsBackWhatWasWritten", spec := "fnRuleReadsBackWhatWasWritten", apart := false }
def FnRuleReadsBackWhatWasWrittenSaid : Prop := fnRuleReadsBackWhatWasWrittenRow.holds Try.pinned (OpenSpec.ofChange fnRuleReadsBackWhatWasWrittenSpec)

/-- ITS FALSE NEIGHBOUR: 'it returns false'. Refute it at one input. -/
def fnRuleReadsBackWhatWasWrittenWrong : ChangeSpec := { name := "fnRuleReadsBackWhatWasWritten", fn := fun _ => fun
  | [d1, d2, d3, d4, d5, d6, d7, d8, d9, d10, d11, d12] => { results := [.lit (.bool false)], args := [d1, d2, d3, d4, d5, d6, d7, d8, d9, d10, d11, d12] }
  | _ => none }
def FnRuleReadsBackWhatWasWrittenWrongFalsely : Prop := fnRuleReadsBackWhatWasWrittenRow.holds Try.pinned (OpenSpec.ofChange fnRuleReadsBackWhatWasWrittenWrong)

/-- 'zzlaws_tz_b1.FnRuleFieldsStayInTheirRanges': WHATEVER THE INPUT: true; the input reads as it did. -/
def fnRuleFieldsStayInTheirRangesSpec : ChangeSpec := { name := "fnRuleFieldsStayInTheirRanges", fn := fun _ => fun
  | [d1, d2] => { results := [.lit (.bool true)], args := [d1, d2] }
  | _ => none }
def fnRuleFieldsStayInTheirRangesRow : OpenClaim := { program := "qxb6600050a", sum := "f86ada2de1e5f31f450237bd2c4c1b5f66eb940420411286bf82c4af651232e8", func := "example.com/tributary/tributary/zzlaws_tz_b1.FnRuleFieldsStayInTheirRanges", spec := "fnRuleFieldsStayInTheirRanges", apart := false }
def FnRuleFieldsStayInTheirRangesSaid : Prop := fnRuleFieldsStayInTheirRangesRow.holds Try.pinned (OpenSpec.ofChange fnRuleFieldsStayInTheirRangesSpec)

/-- ITS FALSE NEIGHBOUR: 'it returns false'. Refute it at one input. -/
def fnRuleFieldsStayInTheirRangesWrong : ChangeSpec := { name := "fnRuleFieldsStayInTheirRanges", fn := fun _ => fun
  | [d1, d2] => { results := [.lit (.bool false)], args := [d1, d2] }
  | _ => none }
def FnRuleFieldsStayInTheirRangesWrongFalsely : Prop := fnRuleFieldsStayInTheirRangesRow.holds Try.pinned (OpenSpec.ofChange fnRuleFieldsStayInTheirRangesWrong)

/-- 'zzlaws_tz_b1.FnRuleReadsOnlyFromItsStart': WHATEVER THE INPUT: true; the input reads as it did. -/
def fnRuleReadsOnlyFromItsStartSpec : ChangeSpec := { name := "fnRuleReadsOnlyFromItsStart", fn := fun _ => fun
  | [d1, d2] => { results := [.lit (.bool true)], args := [d1, d2] }
  | _ => none }
def fnRuleReadsOnlyFromItsStartRow : OpenClaim := { program := "qxb6600050a", sum := "f86ada2de1e5f31f450237bd2c4c1b5f66eb940420411286bf82c4af651232e8", func := "example.com/tributary/tributary/zzlaws_tz_b1.FnRuleReadsOnlyFromItsStart", spec := "fnRuleReadsOnlyFromItsStart", apart := false }
def FnRuleReadsOnlyFromItsStartSaid : Prop := fnRuleReadsOnlyFromItsStartRow.holds Try.pinned (OpenSpec.ofChange fnRuleReadsOnlyFromItsStartSpec)

/-- ITS FALSE NEIGHBOUR: 'it returns false'. Refute it at one input. -/
def fnRuleReadsOnlyFromItsStartWrong : ChangeSpec := { name := "fnRuleReadsOnlyFromItsStart", fn := fun _ => fun
  | [d1, d2] => { results := [.lit (.bool false)], args := [d1, d2] }
  | _ => none }
def FnRuleReadsOnlyFromItsStartWrongFalsely : Prop := fnRuleReadsOnlyFromItsStartRow.holds Try.pinned (OpenSpec.ofChange fnRuleReadsOnlyFromItsStartWrong)

end Rows
end Go.Proofs.Qxb6600050a
