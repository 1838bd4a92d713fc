/-
  No cell of these rows narrows 'for every input' (looked for: loops, veiled, ifaces, maps, wideKeys, modest, calm, conditions, laid).
  DERIVED. THE GIVEN ROWS OF THIS SEAT. 8 by the template 'for every input the law returns true; each argument reads behind the call as it read before'; 0 by the template 'total and deterministic' (their statements: Qxb6600131aTotals.lean).
  GIVEN WITH THE SEED: the statements are not yours to turn. If you find one false, say at which input.
  Laid BY PROGRAM, IN A SANDBOX (cutbox-rows.mjs): the forced cells as the released guide's own fill.sh prints them over the translation 9bd368ee3e0350b6… (all of the seat's roots in one cut). By AI agents, Wed Nov 11 2026. No macro, syntax, notation, axiom, sorry.
-/
import Derived.Test.Qxb6600131aChecked
import GoSem.Claim
import GoSem.ClaimJoined
import GoSem.ClaimMapViews
import Derived.JoinedTies
import Derived.KernelRfl
namespace Go.Proofs.Qxb6600131a
/- THE CELL 'sum', in the pinned program and in every row, IS THE sha256 OF THE DUMP (.gsa) THAT Qxb6600131aProg.lean LOADS. Nothing in Lean hashes anything: it is a label: what it is worth is what the hold of that sum in a sandbox is worth. -/
noncomputable def Try.pinned : Pinned := { name := "qxb6600131a", sum := "9bd368ee3e0350b67dd3f5f0d6e3016b2747eaa49b81ba4890ba5522c47a73fe", checked := Try.checked }
namespace Rows
def none {H : Type} : Left H := { results := [], args := [] }

/-- 'zzlaws_pkg_document_b1.FnPeekSkipsLeadingWhitespace': WHATEVER THE INPUT: true; the input reads as it did. -/
def fnPeekSkipsLeadingWhitespaceSpec : ChangeSpec := { name := "fnPeekSkipsLeadingWhitespace", fn := fun _ => fun
  | [d1, d2, d3] => { results := [.lit (.bool true)], args := [d1, d2, d3] }
  | _ => none }
def fnPeekSkipsLeadingWhitespaceRow : OpenClaim := { program := "qxb6600131a", sum := "9bd368ee3e0350b67dd3f5f0d6e3016b2747eaa49b81ba4890ba5522c47a73fe", func := "example.com/ledgerwell/ledgerwell/zzlaws_pkg_document_b1.FnPeekSkipsLeadingWhitespace", spec := "fnPeekSkipsLeadingWhitespace", apart := false }
def FnPeekSkipsLeadingWhitespaceSaid : Prop := fnPeekSkipsLeadingWhitespaceRow.holds Try.pinned (OpenSpec.ofChange fnPeekSkipsLeadingWhitespaceSpec)

/-- ITS FALSE NEIGHBOUR: 'it returns false'. Refute it at one input. -/
def fnPeekSkipsLeadingWhitespaceWrong : ChangeSpec := { name := "fnPeekSkipsLeadingWhitespace", fn := fun _ => fun
  | [d1, d2, d3] => { results := [.lit (.bool false)], args := [d1, d2, d3] }
  | _ => none }
def FnPeekSkipsLeadingWhitespaceWrongFalsely : Prop := fnPeekSkipsLeadingWhitespaceRow.holds Try.pinned (OpenSpec.ofChange fnPeekSkipsLeadingWhitespaceWrong)

/-- 'zzlaws_pkg_document_b1.FnPeekIdempotent': WHATEVER THE INPUT: true; the input reads as it did. -/
def fnPeekIdempotentSpec : ChangeSpec := { name := "fnPeekIdempotent", fn := fun _ => fun
  | [d1, d2] => { results := [.lit (.bool true)], args := [d1, d2] }
  | _ => none }
def fnPeekIdempotentRow : OpenClaim := { program := "qxb6600131a", sum := "9bd368ee3e0350b67dd3f5f0d6e3016b2747eaa49b81ba4890ba5522c47a73fe", func := "example.com/ledgerwell/ledgerwell/zzlaws_pkg_document_b1.FnPeekIdempotent", spec := "fnPeekIdempotent", apart := false }
def FnPeekIdempotentSaid : Prop := fnPeekIdempotentRow.holds Try.pinned (OpenSpec.ofChange fnPeekIdempotentSpec)

/-- ITS FALSE NEIGHBOUR: 'it returns false'. Refute it at one input. -/
def fnPeekIdempotentWrong : ChangeSpec := { name := "fnPeekIdempotent", fn := fun _ => fun
  | [d1, d2] => { results := [.lit (.bool false)], args := [d1, d2] }
  | _ => none }
def FnPeekIdempotentWrongFalsely : Prop := fnPeekIdempotentRow.holds Try.pinned (OpenSpec.ofChange fnPeekIdempotentWrong)

/-- 'zzlaws_pkg_document_b1.FnSkipStringEndsAfterEncodedString': WHATEVER THE INPUT: true; the input reads as it did. -/
def fnSkipStringEndsAfterEncodedStringSpec : ChangeSpec := { name := "fnSkipStringEndsAfterEncodedString", fn := fun _ => fun
  | [d1, d2, d3] => { results := [.lit (.bool true)], args := [d1, d2, d3] }
  | _ => none }
def fnSkipStringEndsAfterEncodedStringRow : OpenClaim := { program := "qxb6600131a", sum := "9bd368ee3e0350b67dd3f5f0d6e3016b2747eaa49b81ba4890ba5522c47a73fe", func := "example.com/ledgerwell/ledgerwell/zzlaws_pkg_document_b1.FnSkipStringEndsAfterEncodedString", spec := "fnSkipStringEndsAfterEncodedString", apart := false }
def FnSkipStringEndsAfterEncodedStringSaid : Prop := fnSkipStringEndsAfterEncodedStringRow.holds Try.pinned (OpenSpec.ofChange fnSkipStringEndsAfterEncodedStringSpec)

/-- ITS FALSE NEIGHBOUR: 'it returns false'. Refute it at one input. -/
def fnSkipStringEndsAfterEncodedStringWrong : ChangeSpec := { name := "fnSkipStringEndsAfterEncodedString", fn := fun _ => fun
  | [d1, d2, d3] => { results := [.lit (.bool false)], args := [d1, d2, d3] }
  | _ => none }
def FnSkipStringEndsAfterEncodedStringWrongFalsely : Prop := fnSkipStringEndsAfterEncodedStringRow.holds Try.pinned (OpenSpec.ofChange fnSkipStringEndsAfterEncodedStringWrong)

/-- 'zzlaws_pkg_document_b1.FnSkipStringRefusesUnclosed': WHATEVER THE INPUT: true; the input reads as it did. -/
def fnSkipStringRefusesUnclosedSpec : ChangeSpec := { name := "fnSkipStringRefusesUnclosed", fn := fun _ => fun
  | [d1, d2, d3] => { results := [.lit (.bool true)], args := [d1, d2, d3] }
  | _ => none }
def fnSkipStringRefusesUnclosedRow : OpenClaim := { program := "qxb6600131a", sum := "9bd368ee3e0350b67dd3f5f0d6e3016b2747eaa49b81ba4890ba5522c47a73fe", func := "example.com/ledgerwell/ledgerwell/zzlaws_pkg_document_b1.FnSkipStringRefusesUnclosed", spec := "fnSkipStringRefusesUnclosed", apart := false }
def FnSkipStringRefusesUnclosedSaid : Prop := fnSkipStringRefusesUnclosedRow.holds Try.pinned (OpenSpec.ofChange fnSkipStringRefusesUnclosedSpec)

/-- ITS FALSE NEIGHBOUR: 'it returns false'. Refute it at one input. -/
def fnSkipStringRefusesUnclosedWrong : ChangeSpec := { name := "fnSkipStringRefusesUnclosed", fn := fun _ => fun
  | [d1, d2, d3] => { results := [.lit (.bool false)], args := [d1, d2, d3] }
  | _ => none }
def FnSkipStringRefusesUnclosedWrongFalsely : Prop := fnSkipStringRefusesUnclosedRow.holds Try.pinned (OpenSpec.ofChange fnSkipStringRefusesUnclosedWrong)

/-- 'zzlaws_pkg_document_b1.FnSkipStringStopsAtFirstClosingQuote': WHATEVER THE INPUT: true; the input reads as it did. -/
def fnSkipStringStopsAtFirstClosingQuoteSpec : ChangeSpec := { name := "fnSkipStringStopsAtFirstClosingQuote", fn := fun _ => fun
  | [d1, d2] => { results := [.lit (.bool true)], args := [d1, d2] }
  | _ => none }
def fnSkipStringStopsAtFirstClosingQuoteRow : OpenClaim := { program := "qxb6600131a", sum := "9bd368ee3e0350b67dd3f5f0d6e3016b2747eaa49b81ba4890ba5522c47a73fe", func := "example.com/ledgerwell/ledgerwell/zzlaws_pkg_document_b1.FnSkipStringStopsAtFirstClosingQuote", spec := "fnSkipStringStopsAtFirstClosingQuote", apart := false }
def FnSkipStringStopsAtFirstClosingQuoteSaid : Prop := fnSkipStringStopsAtFirstClosingQuoteRow.holds Try.pinned (OpenSpec.ofChange fnSkipStringStopsAtFirstClosingQuoteSpec)

/-- ITS FALSE NEIGHBOUR: 'it returns false'. Refute it at one input. -/
def fnSkipStringStopsAtFirstClosingQuoteWrong : ChangeSpec := { name := "fnSkipStringStopsAtFirstClosingQuote", fn := fun _ => fun
  | [d1, d2] => { results := [.lit (.bool false)], args := [d1, d2] }
  | _ => none }
def FnSkipStringStopsAtFirstClosingQuoteWrongFalsely : Prop := fnSkipStringStopsAtFirstClosingQuoteRow.holds Try.pinned (OpenSpec.ofChange fnSkipStringStopsAtFirstClosingQuoteWrong)

/-- 'zzlaws_pkg_document_b1.FnValueReadsEncodedValue': WHATEVER THE INPUT: true; the input reads as it did. -/
def fnValueReadsEncodedValueSpec : ChangeSpec := { name := "fnValueReadsEncodedValue", fn := fun _ => fun
  | [d1, d2, d3] => { results := [.lit (.bool true)], args := [d1, d2, d3] }
  | _ => none }
def fnValueReadsEncodedValueRow : OpenClaim := { program := "qxb6600131a", sum := "9bd368ee3e0350b67dd3f5f0d6e3016b2747eaa49b81ba4890ba5522c47a73fe", func := "example.com/ledgerwell/ledgerwell/zzlaws_pkg_document_b1.FnValueReadsEncodedValue", spec := "fnValueReadsEncodedValue", recurses := true, apart := false }
def FnValueReadsEncodedValueSaid : Prop := fnValueReadsEncodedValueRow.holds Try.pinned (OpenSpec.ofChange fnValueReadsEncodedValueSpec)

/-- ITS FALSE NEIGHBOUR: 'it returns false'. Refute it at one input. -/
def fnValueReadsEncodedValueWrong : ChangeSpec := { name := "fnValueReadsEncodedValue", fn := fun _ => fun
  | [d1, d2, d3] => { results := [.lit (.bool false)], args := [d1, d2, d3] }
  | _ => none }
def FnValueReadsEncodedValueWrongFalsely : Prop := fnValueReadsEncodedValueRow.holds Try.pinned (OpenSpec.ofChange fnValueReadsEncodedValueWrong)

/-- 'zzlaws_pkg_document_b1.FnValueRefusesTruncatedComposite': WHATEVER THE INPUT: true; the input reads as it did. -/
def fnValueRefusesTruncatedCompositeSpec : ChangeSpec := { name := "fnValueRefusesTruncatedComposite", fn := fun _ => fun
  | [d1, d2, d3] => { results := [.lit (.bool true)], args := [d1, d2, d3] }
  | _ => none }
def fnValueRefusesTruncatedCompositeRow : OpenClaim := { program := "qxb6600131a", sum := "9bd368ee3e0350b67dd3f5f0d6e3016b2747eaa49b81ba4890ba5522c47a73fe", func := "example.com/ledgerwell/ledgerwell/zzlaws_pkg_document_b1.FnValueRefusesTruncatedComposite", spec := "fnValueRefusesTruncatedComposite", recurses := true, apart := false }
def FnValueRefusesTruncatedCompositeSaid : Prop := fnValueRefusesTruncatedCompositeRow.holds Try.pinned (OpenSpec.ofChange fnValueRefusesTruncatedCompositeSpec)

/-- ITS FALSE NEIGHBOUR: 'it returns false'. Refute it at one input. -/
def fnValueRefusesTruncatedCompositeWrong : ChangeSpec := { name := "fnValueRefusesTruncatedComposite", fn := fun _ => fun
  | [d1, d2, d3] => { results := [.lit (.bool false)], args := [d1, d2, d3] }
  | _ => none }
def FnValueRefusesTruncatedCompositeWrongFalsely : Prop := fnValueRefusesTruncatedCompositeRow.holds Try.pinned (OpenSpec.ofChange fnValueRefusesTruncatedCompositeWrong)

/-- 'zzlaws_pkg_document_b1.FnValueReadsSequenceThenEnd': WHATEVER THE INPUT: true; the input reads as it did. -/
def fnValueReadsSequenceThenEndSpec : ChangeSpec := { name := "fnValueReadsSequenceThenEnd", fn := fun _ => fun
  | [d1, d2, d3, d4, d5] => { results := [.lit (.bool true)], args := [d1, d2, d3, d4, d5] }
  | _ => none }
def fnValueReadsSequenceThenEndRow : OpenClaim := { program := "qxb6600131a", sum := "9bd368ee3e0350b67dd3f5f0d6e3016b2747eaa49b81ba4890ba5522c47a73fe", func := "example.com/ledgerwell/ledgerwell/zzlaws_pkg_document_b1.FnValueReadsSequenceThenEnd", spec := "fnValueReadsSequenceThenEnd", recurses := true, apart := false }
def FnValueReadsSequenceThenEndSaid : Prop := fnValueReadsSequenceThenEndRow.holds Try.pinned (OpenSpec.ofChange fnValueReadsSequenceThenEndSpec)

/-- ITS FALSE NEIGHBOUR: 'it returns false'. Refute it at one input. -/
def fnValueReadsSequenceThenEndWrong : ChangeSpec := { name := "fnValueReadsSequenceThenEnd", fn := fun _ => fun
  | [d1, d2, d3, d4, d5] => { results := [.lit (.bool false)], args := [d1, d2, d3, d4, d5] }
  | _ => none }
def FnValueReadsSequenceThenEndWrongFalsely : Prop := fnValueReadsSequenceThenEndRow.holds Try.pinned (OpenSpec.ofChange fnValueReadsSequenceThenEndWrong)

end Rows
end Go.Proofs.Qxb6600131a
