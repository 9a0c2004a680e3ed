/-
  No cell of these rows narrows 'for every input' (looked for: loops, veiled, ifaces, maps, wideKeys, modest, calm, conditions, laid).
  DERIVED. THE GIVEN ROWS OF THIS SEAT. 5 by the template 'for every input the law returns true; each argument reads behind the call as it read before'; 0 by the template 'total and deterministic' (their statements: Qxb6601629aTotals.lean).
  GIVEN WITH THE SEED: the statements are not yours to turn. If you find one false, say at which input.
  Laid BY PROGRAM, IN A SANDBOX (cutbox-rows.mjs): the forced cells as the released guide's own fill.sh prints them over the translation b3bbd2329e0e4fd2… (all of the seat's roots in one cut). By AI agents, Wed Nov 11 2026. No macro, syntax, notation, axiom, sorry.
-/
import Derived.Test.Qxb6601629aChecked
import GoSem.Claim
import GoSem.ClaimJoined
import GoSem.ClaimMapViews
import Derived.JoinedTies
import Derived.KernelRfl
namespace Go.Proofs.Qxb6601629a
/- THE CELL 'sum', in the pinned program and in every row, IS THE sha256 OF THE DUMP (.gsa) THAT Qxb6601629aProg.lean LOADS. Nothing in Lean hashes anything: it is a label: what it is worth is what the hold of that sum in a sandbox is worth. -/
noncomputable def Try.pinned : Pinned := { name := "qxb6601629a", sum := "b3bbd2329e0e4fd29b07b5a637b92bf8be76cd4b25a4c2d0657c6f9c2a702196", checked := Try.checked }
namespace Rows
def none {H : Type} : Left H := { results := [], args := [] }

/-- 'zzlaws_internal_wire_b1.FnJsonKindHangsOnFirstByteAlone': WHATEVER THE INPUT: true; the input reads as it did. -/
def fnJsonKindHangsOnFirstByteAloneSpec : ChangeSpec := { name := "fnJsonKindHangsOnFirstByteAlone", fn := fun _ => fun
  | [d1, d2] => { results := [.lit (.bool true)], args := [d1, d2] }
  | _ => none }
def fnJsonKindHangsOnFirstByteAloneRow : OpenClaim := { program := "qxb6601629a", sum := "b3bbd2329e0e4fd29b07b5a637b92bf8be76cd4b25a4c2d0657c6f9c2a702196", func := "example.com/meterstone/meterstone/zzlaws_internal_wire_b1.FnJsonKindHangsOnFirstByteAlone", spec := "fnJsonKindHangsOnFirstByteAlone", apart := false }
def FnJsonKindHangsOnFirstByteAloneSaid : Prop := fnJsonKindHangsOnFirstByteAloneRow.holds Try.pinned (OpenSpec.ofChange fnJsonKindHangsOnFirstByteAloneSpec)

/-- ITS FALSE NEIGHBOUR: 'it returns false'. Refute it at one input. -/
def fnJsonKindHangsOnFirstByteAloneWrong : ChangeSpec := { name := "fnJsonKindHangsOnFirstByteAlone", fn := fun _ => fun
  | [d1, d2] => { results := [.lit (.bool false)], args := [d1, d2] }
  | _ => none }
def FnJsonKindHangsOnFirstByteAloneWrongFalsely : Prop := fnJsonKindHangsOnFirstByteAloneRow.holds Try.pinned (OpenSpec.ofChange fnJsonKindHangsOnFirstByteAloneWrong)

/-- 'zzlaws_internal_wire_b1.FnNameSetAddAnswersFirstOccurrence': WHATEVER THE INPUT: true; the input reads as it did. -/
def fnNameSetAddAnswersFirstOccurrenceSpec : ChangeSpec := { name := "fnNameSetAddAnswersFirstOccurrence", fn := fun _ => fun
  | [d] => { results := [.lit (.bool true)], args := [d] }
  | _ => none }
def fnNameSetAddAnswersFirstOccurrenceRow : OpenClaim := { program := "qxb6601629a", sum := "b3bbd2329e0e4fd29b07b5a637b92bf8be76cd4b25a4c2d0657c6f9c2a702196", func := "example.com/meterstone/meterstone/zzlaws_internal_wire_b1.FnNameSetAddAnswersFirstOccurrence", spec := "fnNameSetAddAnswersFirstOccurrence", apart := false }
def FnNameSetAddAnswersFirstOccurrenceSaid : Prop := fnNameSetAddAnswersFirstOccurrenceRow.holds Try.pinned (OpenSpec.ofChange fnNameSetAddAnswersFirstOccurrenceSpec)

/-- ITS FALSE NEIGHBOUR: 'it returns false'. Refute it at one input. -/
def fnNameSetAddAnswersFirstOccurrenceWrong : ChangeSpec := { name := "fnNameSetAddAnswersFirstOccurrence", fn := fun _ => fun
  | [d] => { results := [.lit (.bool false)], args := [d] }
  | _ => none }
def FnNameSetAddAnswersFirstOccurrenceWrongFalsely : Prop := fnNameSetAddAnswersFirstOccurrenceRow.holds Try.pinned (OpenSpec.ofChange fnNameSetAddAnswersFirstOccurrenceWrong)

/-- 'zzlaws_internal_wire_b1.FnNameSetAddFromShortList': WHATEVER THE INPUT: true; the input reads as it did. -/
def fnNameSetAddFromShortListSpec : ChangeSpec := { name := "fnNameSetAddFromShortList", fn := fun _ => fun
  | [d1, d2, d3] => { results := [.lit (.bool true)], args := [d1, d2, d3] }
  | _ => none }
def fnNameSetAddFromShortListRow : OpenClaim := { program := "qxb6601629a", sum := "b3bbd2329e0e4fd29b07b5a637b92bf8be76cd4b25a4c2d0657c6f9c2a702196", func := "example.com/meterstone/meterstone/zzlaws_internal_wire_b1.FnNameSetAddFromShortList", spec := "fnNameSetAddFromShortList", apart := false }
def FnNameSetAddFromShortListSaid : Prop := fnNameSetAddFromShortListRow.holds Try.pinned (OpenSpec.ofChange fnNameSetAddFromShortListSpec)

/-- ITS FALSE NEIGHBOUR: 'it returns false'. Refute it at one input. -/
def fnNameSetAddFromShortListWrong : ChangeSpec := { name := "fnNameSetAddFromShortList", fn := fun _ => fun
  | [d1, d2, d3] => { results := [.lit (.bool false)], args := [d1, d2, d3] }
  | _ => none }
def FnNameSetAddFromShortListWrongFalsely : Prop := fnNameSetAddFromShortListRow.holds Try.pinned (OpenSpec.ofChange fnNameSetAddFromShortListWrong)

/-- 'zzlaws_internal_wire_b1.FnSkipStringLandsPastClosingQuote': WHATEVER THE INPUT: true; the input reads as it did. -/
def fnSkipStringLandsPastClosingQuoteSpec : ChangeSpec := { name := "fnSkipStringLandsPastClosingQuote", fn := fun _ => fun
  | [d1, d2] => { results := [.lit (.bool true)], args := [d1, d2] }
  | _ => none }
def fnSkipStringLandsPastClosingQuoteRow : OpenClaim := { program := "qxb6601629a", sum := "b3bbd2329e0e4fd29b07b5a637b92bf8be76cd4b25a4c2d0657c6f9c2a702196", func := "example.com/meterstone/meterstone/zzlaws_internal_wire_b1.FnSkipStringLandsPastClosingQuote", spec := "fnSkipStringLandsPastClosingQuote", apart := false }
def FnSkipStringLandsPastClosingQuoteSaid : Prop := fnSkipStringLandsPastClosingQuoteRow.holds Try.pinned (OpenSpec.ofChange fnSkipStringLandsPastClosingQuoteSpec)

/-- ITS FALSE NEIGHBOUR: 'it returns false'. Refute it at one input. -/
def fnSkipStringLandsPastClosingQuoteWrong : ChangeSpec := { name := "fnSkipStringLandsPastClosingQuote", fn := fun _ => fun
  | [d1, d2] => { results := [.lit (.bool false)], args := [d1, d2] }
  | _ => none }
def FnSkipStringLandsPastClosingQuoteWrongFalsely : Prop := fnSkipStringLandsPastClosingQuoteRow.holds Try.pinned (OpenSpec.ofChange fnSkipStringLandsPastClosingQuoteWrong)

/-- 'zzlaws_internal_wire_b1.FnSkipStringPassesWhatAQuoterWrote': WHATEVER THE INPUT: true; the input reads as it did. -/
def fnSkipStringPassesWhatAQuoterWroteSpec : ChangeSpec := { name := "fnSkipStringPassesWhatAQuoterWrote", fn := fun _ => fun
  | [d1, d2, d3] => { results := [.lit (.bool true)], args := [d1, d2, d3] }
  | _ => none }
def fnSkipStringPassesWhatAQuoterWroteRow : OpenClaim := { program := "qxb6601629a", sum := "b3bbd2329e0e4fd29b07b5a637b92bf8be76cd4b25a4c2d0657c6f9c2a702196", func := "example.com/meterstone/meterstone/zzlaws_internal_wire_b1.FnSkipStringPassesWhatAQuoterWrote", spec := "fnSkipStringPassesWhatAQuoterWrote", apart := false }
def FnSkipStringPassesWhatAQuoterWroteSaid : Prop := fnSkipStringPassesWhatAQuoterWroteRow.holds Try.pinned (OpenSpec.ofChange fnSkipStringPassesWhatAQuoterWroteSpec)

/-- ITS FALSE NEIGHBOUR: 'it returns false'. Refute it at one input. -/
def fnSkipStringPassesWhatAQuoterWroteWrong : ChangeSpec := { name := "fnSkipStringPassesWhatAQuoterWrote", fn := fun _ => fun
  | [d1, d2, d3] => { results := [.lit (.bool false)], args := [d1, d2, d3] }
  | _ => none }
def FnSkipStringPassesWhatAQuoterWroteWrongFalsely : Prop := fnSkipStringPassesWhatAQuoterWroteRow.holds Try.pinned (OpenSpec.ofChange fnSkipStringPassesWhatAQuoterWroteWrong)

end Rows
end Go.Proofs.Qxb6601629a
