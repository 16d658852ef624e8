/-
  No cell of these rows narrows 'for every input' (looked for: loops, veiled, ifaces, maps, wideKeys, modest, calm, conditions, laid).
  DERIVED. THE GIVEN ROWS OF THIS SEAT. 5 by the template 'for every input the law returns true; each argument reads behind the call as it read before'; 0 by the template 'total and deterministic' (their statements: Qxb6605296aTotals.lean).
  GIVEN WITH THE SEED: the statements are not yours to turn. If you find one false, say at which input.
  Laid BY PROGRAM, IN A SANDBOX (cutbox-rows.mjs): the forced cells as the released guide's own fill.sh prints them over the translation 110d346ffcec1df3… (all of the seat's roots in one cut). By AI agents, Wed Nov 11 2026. No macro, syntax, notation, axiom, sorry.
-/
import Derived.Test.Qxb6605296aChecked
import GoSem.Claim
import GoSem.ClaimJoined
import GoSem.ClaimMapViews
import Derived.JoinedTies
import Derived.KernelRfl
namespace Go.Proofs.Qxb6605296a
/- THE CELL 'sum', in the pinned program and in every row, IS THE sha256 OF THE DUMP (.gsa) THAT Qxb6605296aProg.lean LOADS. Nothing in Lean hashes anything: it is a label: what it is worth is what the hold of that sum in a sandbox is worth. -/
noncomputable def Try.pinned : Pinned := { name := "qxb6605296a", sum := "110d346ffcec1df3500c49f7a3135095bb6743097a196e8c5566d129f259778f", checked := Try.checked }
namespace Rows
def none {H : Type} : Left H := { results := [], args := [] }

/-- 'zzlaws_internal_exactjson_b1.FnCutKeepsExactlyTheBytesOutsideTheSpans': WHATEVER THE INPUT: true; the input reads as it did. -/
def fnCutKeepsExactlyTheBytesOutsideTheSpansSpec : ChangeSpec := { name := "fnCutKeepsExactlyTheBytesOutsideTheSpans", fn := fun _ => fun
  | [d1, d2] => { results := [.lit (.bool true)], args := [d1, d2] }
  | _ => none }
def fnCutKeepsExactlyTheBytesOutsideTheSpansRow : OpenClaim := { program := "qxb6605296a", sum := "110d346ffcec1df3500c49f7a3135095bb6743097a196e8c5566d129f259778f", func := "example.com/duplex/duplex/zzlaws_internal_exactjson_b1.FnCutKeepsExactlyTheBytesOutsideTheSpans", spec := "fnCutKeepsExactlyTheBytesOutsideTheSpans", apart := false }
def FnCutKeepsExactlyTheBytesOutsideTheSpansSaid : Prop := fnCutKeepsExactlyTheBytesOutsideTheSpansRow.holds Try.pinned (OpenSpec.ofChange fnCutKeepsExactlyTheBytesOutsideTheSpansSpec)

/-- ITS FALSE NEIGHBOUR: 'it returns false'. Refute it at one input. -/
def fnCutKeepsExactlyTheBytesOutsideTheSpansWrong : ChangeSpec := { name := "fnCutKeepsExactlyTheBytesOutsideTheSpans", fn := fun _ => fun
  | [d1, d2] => { results := [.lit (.bool false)], args := [d1, d2] }
  | _ => none }
def FnCutKeepsExactlyTheBytesOutsideTheSpansWrongFalsely : Prop := fnCutKeepsExactlyTheBytesOutsideTheSpansRow.holds Try.pinned (OpenSpec.ofChange fnCutKeepsExactlyTheBytesOutsideTheSpansWrong)

/-- 'zzlaws_internal_exactjson_b1.FnStrEndsAtFirstUnescapedQuote': WHATEVER THE INPUT: true; the input reads as it did. -/
def fnStrEndsAtFirstUnescapedQuoteSpec : ChangeSpec := { name := "fnStrEndsAtFirstUnescapedQuote", fn := fun _ => fun
  | [d1, d2] => { results := [.lit (.bool true)], args := [d1, d2] }
  | _ => none }
def fnStrEndsAtFirstUnescapedQuoteRow : OpenClaim := { program := "qxb6605296a", sum := "110d346ffcec1df3500c49f7a3135095bb6743097a196e8c5566d129f259778f", func := "example.com/duplex/duplex/zzlaws_internal_exactjson_b1.FnStrEndsAtFirstUnescapedQuote", spec := "fnStrEndsAtFirstUnescapedQuote", apart := false }
def FnStrEndsAtFirstUnescapedQuoteSaid : Prop := fnStrEndsAtFirstUnescapedQuoteRow.holds Try.pinned (OpenSpec.ofChange fnStrEndsAtFirstUnescapedQuoteSpec)

/-- ITS FALSE NEIGHBOUR: 'it returns false'. Refute it at one input. -/
def fnStrEndsAtFirstUnescapedQuoteWrong : ChangeSpec := { name := "fnStrEndsAtFirstUnescapedQuote", fn := fun _ => fun
  | [d1, d2] => { results := [.lit (.bool false)], args := [d1, d2] }
  | _ => none }
def FnStrEndsAtFirstUnescapedQuoteWrongFalsely : Prop := fnStrEndsAtFirstUnescapedQuoteRow.holds Try.pinned (OpenSpec.ofChange fnStrEndsAtFirstUnescapedQuoteWrong)

/-- 'zzlaws_internal_exactjson_b1.FnStrAndSkipFindTheEndOfAnEncodedString': WHATEVER THE INPUT: true; the input reads as it did. -/
def fnStrAndSkipFindTheEndOfAnEncodedStringSpec : ChangeSpec := { name := "fnStrAndSkipFindTheEndOfAnEncodedString", fn := fun _ => fun
  | [d1, d2] => { results := [.lit (.bool true)], args := [d1, d2] }
  | _ => none }
def fnStrAndSkipFindTheEndOfAnEncodedStringRow : OpenClaim := { program := "qxb6605296a", sum := "110d346ffcec1df3500c49f7a3135095bb6743097a196e8c5566d129f259778f", func := "example.com/duplex/duplex/zzlaws_internal_exactjson_b1.FnStrAndSkipFindTheEndOfAnEncodedString", spec := "fnStrAndSkipFindTheEndOfAnEncodedString", apart := false }
def FnStrAndSkipFindTheEndOfAnEncodedStringSaid : Prop := fnStrAndSkipFindTheEndOfAnEncodedStringRow.holds Try.pinned (OpenSpec.ofChange fnStrAndSkipFindTheEndOfAnEncodedStringSpec)

/-- ITS FALSE NEIGHBOUR: 'it returns false'. Refute it at one input. -/
def fnStrAndSkipFindTheEndOfAnEncodedStringWrong : ChangeSpec := { name := "fnStrAndSkipFindTheEndOfAnEncodedString", fn := fun _ => fun
  | [d1, d2] => { results := [.lit (.bool false)], args := [d1, d2] }
  | _ => none }
def FnStrAndSkipFindTheEndOfAnEncodedStringWrongFalsely : Prop := fnStrAndSkipFindTheEndOfAnEncodedStringRow.holds Try.pinned (OpenSpec.ofChange fnStrAndSkipFindTheEndOfAnEncodedStringWrong)

/-- 'zzlaws_internal_exactjson_b1.FnSkipMatchesAValueScanner': WHATEVER THE INPUT: true; the input reads as it did. -/
def fnSkipMatchesAValueScannerSpec : ChangeSpec := { name := "fnSkipMatchesAValueScanner", fn := fun _ => fun
  | [d1, d2] => { results := [.lit (.bool true)], args := [d1, d2] }
  | _ => none }
def fnSkipMatchesAValueScannerRow : OpenClaim := { program := "qxb6605296a", sum := "110d346ffcec1df3500c49f7a3135095bb6743097a196e8c5566d129f259778f", func := "example.com/duplex/duplex/zzlaws_internal_exactjson_b1.FnSkipMatchesAValueScanner", spec := "fnSkipMatchesAValueScanner", apart := false }
def FnSkipMatchesAValueScannerSaid : Prop := fnSkipMatchesAValueScannerRow.holds Try.pinned (OpenSpec.ofChange fnSkipMatchesAValueScannerSpec)

/-- ITS FALSE NEIGHBOUR: 'it returns false'. Refute it at one input. -/
def fnSkipMatchesAValueScannerWrong : ChangeSpec := { name := "fnSkipMatchesAValueScanner", fn := fun _ => fun
  | [d1, d2] => { results := [.lit (.bool false)], args := [d1, d2] }
  | _ => none }
def FnSkipMatchesAValueScannerWrongFalsely : Prop := fnSkipMatchesAValueScannerRow.holds Try.pinned (OpenSpec.ofChange fnSkipMatchesAValueScannerWrong)

/-- 'zzlaws_internal_exactjson_b1.FnSkipEndDoesNotHangOnWhatFollows': WHATEVER THE INPUT: true; the input reads as it did. -/
def fnSkipEndDoesNotHangOnWhatFollowsSpec : ChangeSpec := { name := "fnSkipEndDoesNotHangOnWhatFollows", fn := fun _ => fun
  | [d1, d2, d3] => { results := [.lit (.bool true)], args := [d1, d2, d3] }
  | _ => none }
def fnSkipEndDoesNotHangOnWhatFollowsRow : OpenClaim := { program := "qxb6605296a", sum := "110d346ffcec1df3500c49f7a3135095bb6743097a196e8c5566d129f259778f", func := "example.com/duplex/duplex/zzlaws_internal_exactjson_b1.FnSkipEndDoesNotHangOnWhatFollows", spec := "fnSkipEndDoesNotHangOnWhatFollows", apart := false }
def FnSkipEndDoesNotHangOnWhatFollowsSaid : Prop := fnSkipEndDoesNotHangOnWhatFollowsRow.holds Try.pinned (OpenSpec.ofChange fnSkipEndDoesNotHangOnWhatFollowsSpec)

/-- ITS FALSE NEIGHBOUR: 'it returns false'. Refute it at one input. -/
def fnSkipEndDoesNotHangOnWhatFollowsWrong : ChangeSpec := { name := "fnSkipEndDoesNotHangOnWhatFollows", fn := fun _ => fun
  | [d1, d2, d3] => { results := [.lit (.bool false)], args := [d1, d2, d3] }
  | _ => none }
def FnSkipEndDoesNotHangOnWhatFollowsWrongFalsely : Prop := fnSkipEndDoesNotHangOnWhatFollowsRow.holds Try.pinned (OpenSpec.ofChange fnSkipEndDoesNotHangOnWhatFollowsWrong)

end Rows
end Go.Proofs.Qxb6605296a
