/-
  No cell of these rows narrows 'for every input' (looked for: loops, veiled, ifaces, maps, wideKeys, modest, calm, conditions, laid).
  DERIVED. THE GIVEN ROWS OF THIS SEAT. 4 by the template 'for every input the law returns true; each argument reads behind the call as it read before'; 0 by the template 'total and deterministic' (their statements: Qxb6601109aTotals.lean).
  GIVEN WITH THE SEED: the statements are not yours to turn. If you find one false, say at which input.
  Laid BY PROGRAM, IN A SANDBOX (cutbox-rows.mjs): the forced cells as the released guide's own fill.sh prints them over the translation 8db0494e9f3afc02… (all of the seat's roots in one cut). By AI agents, Wed Nov 11 2026. No macro, syntax, notation, axiom, sorry.
-/
import Derived.Test.Qxb6601109aChecked
import GoSem.Claim
import GoSem.ClaimJoined
import GoSem.ClaimMapViews
import Derived.JoinedTies
import Derived.KernelRfl
namespace Go.Proofs.Qxb6601109a
/- THE CELL 'sum', in the pinned program and in every row, IS THE sha256 OF THE DUMP (.gsa) THAT Qxb6601109aProg.lean LOADS. Nothing in Lean hashes anything: it is a label: what it is worth is what the hold of that sum in a sandbox is worth. -/
noncomputable def Try.pinned : Pinned := { name := "qxb6601109a", sum := "8db0494e9f3afc02a7e8873738991be42015ecf91efeb4adce3b648cd43912b7", checked := Try.checked }
namespace Rows
def none {H : Type} : Left H := { results := [], args := [] }

/-- 'zzlaws_internal_schema_b1.FnAddKeyReportsRepeatsAndKeepsList': WHATEVER THE INPUT: true; the input reads as it did. -/
def fnAddKeyReportsRepeatsAndKeepsListSpec : ChangeSpec := { name := "fnAddKeyReportsRepeatsAndKeepsList", fn := fun _ => fun
  | [d1, d2] => { results := [.lit (.bool true)], args := [d1, d2] }
  | _ => none }
def fnAddKeyReportsRepeatsAndKeepsListRow : OpenClaim := { program := "qxb6601109a", sum := "8db0494e9f3afc02a7e8873738991be42015ecf91efeb4adce3b648cd43912b7", func := "example.com/statewright/statewright/zzlaws_internal_schema_b1.FnAddKeyReportsRepeatsAndKeepsList", spec := "fnAddKeyReportsRepeatsAndKeepsList", unfollowed := true, recurses := true, apart := false }
def FnAddKeyReportsRepeatsAndKeepsListSaid : Prop := fnAddKeyReportsRepeatsAndKeepsListRow.holds Try.pinned (OpenSpec.ofChange fnAddKeyReportsRepeatsAndKeepsListSpec)

/-- ITS FALSE NEIGHBOUR: 'it returns false'. Refute it at one input. -/
def fnAddKeyReportsRepeatsAndKeepsListWrong : ChangeSpec := { name := "fnAddKeyReportsRepeatsAndKeepsList", fn := fun _ => fun
  | [d1, d2] => { results := [.lit (.bool false)], args := [d1, d2] }
  | _ => none }
def FnAddKeyReportsRepeatsAndKeepsListWrongFalsely : Prop := fnAddKeyReportsRepeatsAndKeepsListRow.holds Try.pinned (OpenSpec.ofChange fnAddKeyReportsRepeatsAndKeepsListWrong)

/-- 'zzlaws_internal_schema_b1.FnAddKeyAnswersIgnoreOuterKeys': WHATEVER THE INPUT: true; the input reads as it did. -/
def fnAddKeyAnswersIgnoreOuterKeysSpec : ChangeSpec := { name := "fnAddKeyAnswersIgnoreOuterKeys", fn := fun _ => fun
  | [d1, d2] => { results := [.lit (.bool true)], args := [d1, d2] }
  | _ => none }
def fnAddKeyAnswersIgnoreOuterKeysRow : OpenClaim := { program := "qxb6601109a", sum := "8db0494e9f3afc02a7e8873738991be42015ecf91efeb4adce3b648cd43912b7", func := "example.com/statewright/statewright/zzlaws_internal_schema_b1.FnAddKeyAnswersIgnoreOuterKeys", spec := "fnAddKeyAnswersIgnoreOuterKeys", unfollowed := true, recurses := true, apart := false }
def FnAddKeyAnswersIgnoreOuterKeysSaid : Prop := fnAddKeyAnswersIgnoreOuterKeysRow.holds Try.pinned (OpenSpec.ofChange fnAddKeyAnswersIgnoreOuterKeysSpec)

/-- ITS FALSE NEIGHBOUR: 'it returns false'. Refute it at one input. -/
def fnAddKeyAnswersIgnoreOuterKeysWrong : ChangeSpec := { name := "fnAddKeyAnswersIgnoreOuterKeys", fn := fun _ => fun
  | [d1, d2] => { results := [.lit (.bool false)], args := [d1, d2] }
  | _ => none }
def FnAddKeyAnswersIgnoreOuterKeysWrongFalsely : Prop := fnAddKeyAnswersIgnoreOuterKeysRow.holds Try.pinned (OpenSpec.ofChange fnAddKeyAnswersIgnoreOuterKeysWrong)

/-- 'zzlaws_internal_schema_b1.FnStringEndFindsFirstUnescapedQuote': WHATEVER THE INPUT: true; the input reads as it did. -/
def fnStringEndFindsFirstUnescapedQuoteSpec : ChangeSpec := { name := "fnStringEndFindsFirstUnescapedQuote", fn := fun _ => fun
  | [d1, d2] => { results := [.lit (.bool true)], args := [d1, d2] }
  | _ => none }
def fnStringEndFindsFirstUnescapedQuoteRow : OpenClaim := { program := "qxb6601109a", sum := "8db0494e9f3afc02a7e8873738991be42015ecf91efeb4adce3b648cd43912b7", func := "example.com/statewright/statewright/zzlaws_internal_schema_b1.FnStringEndFindsFirstUnescapedQuote", spec := "fnStringEndFindsFirstUnescapedQuote", apart := false }
def FnStringEndFindsFirstUnescapedQuoteSaid : Prop := fnStringEndFindsFirstUnescapedQuoteRow.holds Try.pinned (OpenSpec.ofChange fnStringEndFindsFirstUnescapedQuoteSpec)

/-- ITS FALSE NEIGHBOUR: 'it returns false'. Refute it at one input. -/
def fnStringEndFindsFirstUnescapedQuoteWrong : ChangeSpec := { name := "fnStringEndFindsFirstUnescapedQuote", fn := fun _ => fun
  | [d1, d2] => { results := [.lit (.bool false)], args := [d1, d2] }
  | _ => none }
def FnStringEndFindsFirstUnescapedQuoteWrongFalsely : Prop := fnStringEndFindsFirstUnescapedQuoteRow.holds Try.pinned (OpenSpec.ofChange fnStringEndFindsFirstUnescapedQuoteWrong)

/-- 'zzlaws_internal_schema_b1.FnStringEndRoundTripsEncodedText': WHATEVER THE INPUT: true; the input reads as it did. -/
def fnStringEndRoundTripsEncodedTextSpec : ChangeSpec := { name := "fnStringEndRoundTripsEncodedText", fn := fun _ => fun
  | [d1, d2, d3] => { results := [.lit (.bool true)], args := [d1, d2, d3] }
  | _ => none }
def fnStringEndRoundTripsEncodedTextRow : OpenClaim := { program := "qxb6601109a", sum := "8db0494e9f3afc02a7e8873738991be42015ecf91efeb4adce3b648cd43912b7", func := "example.com/statewright/statewright/zzlaws_internal_schema_b1.FnStringEndRoundTripsEncodedText", spec := "fnStringEndRoundTripsEncodedText", apart := false }
def FnStringEndRoundTripsEncodedTextSaid : Prop := fnStringEndRoundTripsEncodedTextRow.holds Try.pinned (OpenSpec.ofChange fnStringEndRoundTripsEncodedTextSpec)

/-- ITS FALSE NEIGHBOUR: 'it returns false'. Refute it at one input. -/
def fnStringEndRoundTripsEncodedTextWrong : ChangeSpec := { name := "fnStringEndRoundTripsEncodedText", fn := fun _ => fun
  | [d1, d2, d3] => { results := [.lit (.bool false)], args := [d1, d2, d3] }
  | _ => none }
def FnStringEndRoundTripsEncodedTextWrongFalsely : Prop := fnStringEndRoundTripsEncodedTextRow.holds Try.pinned (OpenSpec.ofChange fnStringEndRoundTripsEncodedTextWrong)

end Rows
end Go.Proofs.Qxb6601109a
