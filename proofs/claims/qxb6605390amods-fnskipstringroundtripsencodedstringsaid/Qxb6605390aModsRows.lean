/-
  No cell of these rows narrows 'for every input' (looked for: loops, veiled, ifaces, maps, wideKeys, modest, calm, conditions, laid).
  DERIVED. THE GIVEN ROWS OF THIS SEAT. 5 by the template 'for every input the law returns true; each argument reads behind the call as it read before'; 0 by the template 'total and deterministic' (their statements: Qxb6605390aModsTotals.lean).
  GIVEN WITH THE SEED: the statements are not yours to turn. If you find one false, say at which input.
  Laid BY PROGRAM, IN A SANDBOX (cutbox-rows.mjs): the forced cells as the released guide's own fill.sh prints them over the translation 411cc78338f166be… (all of the seat's roots in one cut). By AI agents, Wed Nov 11 2026. No macro, syntax, notation, axiom, sorry.
-/
import Derived.Test.Qxb6605390aModsChecked
import GoSem.Claim
import GoSem.ClaimJoined
import GoSem.ClaimMapViews
import Derived.JoinedTies
import Derived.KernelRfl
namespace Go.Proofs.Qxb6605390aMods
/- THE CELL 'sum', in the pinned program and in every row, IS THE sha256 OF THE DUMP (.gsa) THAT Qxb6605390aModsProg.lean LOADS. Nothing in Lean hashes anything: it is a label: what it is worth is what the hold of that sum in a sandbox is worth. -/
noncomputable def Trym.pinned : Pinned := { name := "qxb6605390amods", sum := "411cc78338f166bedc4740577a45a30ab5be7a0449e8df667eab3f55148c0b11", checked := Trym.checked }
namespace Rows
def none {H : Type} : Left H := { results := [], args := [] }

/-- 'zzlaws_internal_ledger_b1.FnSkipSpaceLandsOnFirstNonSpace': WHATEVER THE INPUT: true; the input reads as it did. -/
def fnSkipSpaceLandsOnFirstNonSpaceSpec : ChangeSpec := { name := "fnSkipSpaceLandsOnFirstNonSpace", fn := fun _ => fun
  | [d1, d2] => { results := [.lit (.bool true)], args := [d1, d2] }
  | _ => none }
def fnSkipSpaceLandsOnFirstNonSpaceRow : OpenClaim := { program := "qxb6605390amods", sum := "411cc78338f166bedc4740577a45a30ab5be7a0449e8df667eab3f55148c0b11", func := "example.com/meterbook/meterbook/zzlaws_internal_ledger_b1.FnSkipSpaceLandsOnFirstNonSpace", spec := "fnSkipSpaceLandsOnFirstNonSpace", make := .lifted ["publicsums"], apart := false }
def FnSkipSpaceLandsOnFirstNonSpaceSaid : Prop := fnSkipSpaceLandsOnFirstNonSpaceRow.holds Trym.pinned (OpenSpec.ofChange fnSkipSpaceLandsOnFirstNonSpaceSpec)

/-- ITS FALSE NEIGHBOUR: 'it returns false'. Refute it at one input. -/
def fnSkipSpaceLandsOnFirstNonSpaceWrong : ChangeSpec := { name := "fnSkipSpaceLandsOnFirstNonSpace", fn := fun _ => fun
  | [d1, d2] => { results := [.lit (.bool false)], args := [d1, d2] }
  | _ => none }
def FnSkipSpaceLandsOnFirstNonSpaceWrongFalsely : Prop := fnSkipSpaceLandsOnFirstNonSpaceRow.holds Trym.pinned (OpenSpec.ofChange fnSkipSpaceLandsOnFirstNonSpaceWrong)

/-- 'zzlaws_internal_ledger_b1.FnSkipStringEndsAtFirstUnescapedQuote': WHATEVER THE INPUT: true; the input reads as it did. -/
def fnSkipStringEndsAtFirstUnescapedQuoteSpec : ChangeSpec := { name := "fnSkipStringEndsAtFirstUnescapedQuote", fn := fun _ => fun
  | [d1, d2] => { results := [.lit (.bool true)], args := [d1, d2] }
  | _ => none }
def fnSkipStringEndsAtFirstUnescapedQuoteRow : OpenClaim := { program := "qxb6605390amods", sum := "411cc78338f166bedc4740577a45a30ab5be7a0449e8df667eab3f55148c0b11", func := "example.com/meterbook/meterbook/zzlaws_internal_ledger_b1.FnSkipStringEndsAtFirstUnescapedQuote", spec := "fnSkipStringEndsAtFirstUnescapedQuote", make := .lifted ["publicsums"], apart := false }
def FnSkipStringEndsAtFirstUnescapedQuoteSaid : Prop := fnSkipStringEndsAtFirstUnescapedQuoteRow.holds Trym.pinned (OpenSpec.ofChange fnSkipStringEndsAtFirstUnescapedQuoteSpec)

/-- ITS FALSE NEIGHBOUR: 'it returns false'. Refute it at one input. -/
def fnSkipStringEndsAtFirstUnescapedQuoteWrong : ChangeSpec := { name := "fnSkipStringEndsAtFirstUnescapedQuote", fn := fun _ => fun
  | [d1, d2] => { results := [.lit (.bool false)], args := [d1, d2] }
  | _ => none }
def FnSkipStringEndsAtFirstUnescapedQuoteWrongFalsely : Prop := fnSkipStringEndsAtFirstUnescapedQuoteRow.holds Trym.pinned (OpenSpec.ofChange fnSkipStringEndsAtFirstUnescapedQuoteWrong)

/-- 'zzlaws_internal_ledger_b1.FnSkipStringRoundTripsEncodedString': WHATEVER THE INPUT: true; the input reads as it did. -/
def fnSkipStringRoundTripsEncodedStringSpec : ChangeSpec := { name := "fnSkipStringRoundTripsEncodedString", fn := fun _ => fun
  | [d1, d2, d3] => { results := [.lit (.bool true)], args := [d1, d2, d3] }
  | _ => none }
def fnSkipStringRoundTripsEncodedStringRow : OpenClaim := { program := "qxb6605390amods", sum := "411cc78338f166bedc4740577a45a30ab5be7a0449e8df667eab3f55148c0b11", func := "example.com/meterbook/meterbook/zzlaws_internal_ledger_b1.FnSkipStringRoundTripsEncodedString", spec := "fnSkipStringRoundTripsEncodedString", make := .lifted ["publicsums"], apart := false }
def FnSkipStringRoundTripsEncodedStringSaid : Prop := fnSkipStringRoundTripsEncodedStringRow.holds Trym.pinned (OpenSpec.ofChange fnSkipStringRoundTripsEncodedStringSpec)

/-- ITS FALSE NEIGHBOUR: 'it returns false'. Refute it at one input. -/
def fnSkipStringRoundTripsEncodedStringWrong : ChangeSpec := { name := "fnSkipStringRoundTripsEncodedString", fn := fun _ => fun
  | [d1, d2, d3] => { results := [.lit (.bool false)], args := [d1, d2, d3] }
  | _ => none }
def FnSkipStringRoundTripsEncodedStringWrongFalsely : Prop := fnSkipStringRoundTripsEncodedStringRow.holds Trym.pinned (OpenSpec.ofChange fnSkipStringRoundTripsEncodedStringWrong)

/-- 'zzlaws_internal_ledger_b1.FnSkipValueMatchesJSONGrammar': WHATEVER THE INPUT: true; the input reads as it did. -/
def fnSkipValueMatchesJSONGrammarSpec : ChangeSpec := { name := "fnSkipValueMatchesJSONGrammar", fn := fun _ => fun
  | [d1, d2] => { results := [.lit (.bool true)], args := [d1, d2] }
  | _ => none }
def fnSkipValueMatchesJSONGrammarRow : OpenClaim := { program := "qxb6605390amods", sum := "411cc78338f166bedc4740577a45a30ab5be7a0449e8df667eab3f55148c0b11", func := "example.com/meterbook/meterbook/zzlaws_internal_ledger_b1.FnSkipValueMatchesJSONGrammar", spec := "fnSkipValueMatchesJSONGrammar", inPlace := ["internal/bytealg.IndexByteString"], recurses := true, make := .lifted ["publicsums"], apart := false }
def FnSkipValueMatchesJSONGrammarSaid : Prop := fnSkipValueMatchesJSONGrammarRow.holds Trym.pinned (OpenSpec.ofChange fnSkipValueMatchesJSONGrammarSpec)

/-- ITS FALSE NEIGHBOUR: 'it returns false'. Refute it at one input. -/
def fnSkipValueMatchesJSONGrammarWrong : ChangeSpec := { name := "fnSkipValueMatchesJSONGrammar", fn := fun _ => fun
  | [d1, d2] => { results := [.lit (.bool false)], args := [d1, d2] }
  | _ => none }
def FnSkipValueMatchesJSONGrammarWrongFalsely : Prop := fnSkipValueMatchesJSONGrammarRow.holds Trym.pinned (OpenSpec.ofChange fnSkipValueMatchesJSONGrammarWrong)

/-- 'zzlaws_internal_ledger_b1.FnSkipValueWalksContainerElements': WHATEVER THE INPUT: true; the input reads as it did. -/
def fnSkipValueWalksContainerElementsSpec : ChangeSpec := { name := "fnSkipValueWalksContainerElements", fn := fun _ => fun
  | [d1, d2] => { results := [.lit (.bool true)], args := [d1, d2] }
  | _ => none }
def fnSkipValueWalksContainerElementsRow : OpenClaim := { program := "qxb6605390amods", sum := "411cc78338f166bedc4740577a45a30ab5be7a0449e8df667eab3f55148c0b11", func := "example.com/meterbook/meterbook/zzlaws_internal_ledger_b1.FnSkipValueWalksContainerElements", spec := "fnSkipValueWalksContainerElements", inPlace := ["internal/bytealg.IndexByteString"], recurses := true, make := .lifted ["publicsums"], apart := false }
def FnSkipValueWalksContainerElementsSaid : Prop := fnSkipValueWalksContainerElementsRow.holds Trym.pinned (OpenSpec.ofChange fnSkipValueWalksContainerElementsSpec)

/-- ITS FALSE NEIGHBOUR: 'it returns false'. Refute it at one input. -/
def fnSkipValueWalksContainerElementsWrong : ChangeSpec := { name := "fnSkipValueWalksContainerElements", fn := fun _ => fun
  | [d1, d2] => { results := [.lit (.bool false)], args := [d1, d2] }
  | _ => none }
def FnSkipValueWalksContainerElementsWrongFalsely : Prop := fnSkipValueWalksContainerElementsRow.holds Trym.pinned (OpenSpec.ofChange fnSkipValueWalksContainerElementsWrong)

end Rows
end Go.Proofs.Qxb6605390aMods
