/-
  No cell of these rows narrows 'for every input' (looked for: loops, veiled, ifaces, maps, wideKeys, modest, calm, conditions, laid).
  DERIVED. THE GIVEN ROWS OF THIS SEAT. 5 by the template 'for every input the law returns true; each argument reads behind the call as it read before'; 0 by the template 'total and deterministic' (their statements: Qxb6617306aTotals.lean).
  GIVEN WITH THE SEED: the statements are not yours to turn. If you find one false, say at which input.
  Laid BY PROGRAM, IN A SANDBOX (cutbox-rows.mjs): the forced cells as the released guide's own fill.sh prints them over the translation c825a5f6bb3f73a5… (all of the seat's roots in one cut). By AI agents, Wed Nov 11 2026. No macro, syntax, notation, axiom, sorry.
-/
import Derived.Test.Qxb6617306aChecked
import GoSem.Claim
import GoSem.ClaimJoined
import GoSem.ClaimMapViews
import Derived.JoinedTies
import Derived.KernelRfl
namespace Go.Proofs.Qxb6617306a
/- THE CELL 'sum', in the pinned program and in every row, IS THE sha256 OF THE DUMP (.gsa) THAT Qxb6617306aProg.lean LOADS. Nothing in Lean hashes anything: it is a label: what it is worth is what the hold of that sum in a sandbox is worth. -/
noncomputable def Try.pinned : Pinned := { name := "qxb6617306a", sum := "c825a5f6bb3f73a57d7635ff5f4713b7e2d4693f131bd223d19a0f8cf4da8b66", checked := Try.checked }
namespace Rows
def none {H : Type} : Left H := { results := [], args := [] }

/-- 'zzlaws_internal_api_b1.FnWordIsItsBytesAtAnyCut': WHATEVER THE INPUT: true; the input reads as it did. -/
def fnWordIsItsBytesAtAnyCutSpec : ChangeSpec := { name := "fnWordIsItsBytesAtAnyCut", fn := fun _ => fun
  | [d1, d2] => { results := [.lit (.bool true)], args := [d1, d2] }
  | _ => none }
def fnWordIsItsBytesAtAnyCutRow : OpenClaim := { program := "qxb6617306a", sum := "c825a5f6bb3f73a57d7635ff5f4713b7e2d4693f131bd223d19a0f8cf4da8b66", func := "example.com/skewless/skewless/zzlaws_internal_api_b1.FnWordIsItsBytesAtAnyCut", spec := "fnWordIsItsBytesAtAnyCut", apart := false }
def FnWordIsItsBytesAtAnyCutSaid : Prop := fnWordIsItsBytesAtAnyCutRow.holds Try.pinned (OpenSpec.ofChange fnWordIsItsBytesAtAnyCutSpec)

/-- ITS FALSE NEIGHBOUR: 'it returns false'. Refute it at one input. -/
def fnWordIsItsBytesAtAnyCutWrong : ChangeSpec := { name := "fnWordIsItsBytesAtAnyCut", fn := fun _ => fun
  | [d1, d2] => { results := [.lit (.bool false)], args := [d1, d2] }
  | _ => none }
def FnWordIsItsBytesAtAnyCutWrongFalsely : Prop := fnWordIsItsBytesAtAnyCutRow.holds Try.pinned (OpenSpec.ofChange fnWordIsItsBytesAtAnyCutWrong)

/-- 'zzlaws_internal_api_b1.FnNextSkipsSpaceAndOneComma': WHATEVER THE INPUT: true; the input reads as it did. -/
def fnNextSkipsSpaceAndOneCommaSpec : ChangeSpec := { name := "fnNextSkipsSpaceAndOneComma", fn := fun _ => fun
  | [d1, d2, d3] => { results := [.lit (.bool true)], args := [d1, d2, d3] }
  | _ => none }
def fnNextSkipsSpaceAndOneCommaRow : OpenClaim := { program := "qxb6617306a", sum := "c825a5f6bb3f73a57d7635ff5f4713b7e2d4693f131bd223d19a0f8cf4da8b66", func := "example.com/skewless/skewless/zzlaws_internal_api_b1.FnNextSkipsSpaceAndOneComma", spec := "fnNextSkipsSpaceAndOneComma", apart := false }
def FnNextSkipsSpaceAndOneCommaSaid : Prop := fnNextSkipsSpaceAndOneCommaRow.holds Try.pinned (OpenSpec.ofChange fnNextSkipsSpaceAndOneCommaSpec)

/-- ITS FALSE NEIGHBOUR: 'it returns false'. Refute it at one input. -/
def fnNextSkipsSpaceAndOneCommaWrong : ChangeSpec := { name := "fnNextSkipsSpaceAndOneComma", fn := fun _ => fun
  | [d1, d2, d3] => { results := [.lit (.bool false)], args := [d1, d2, d3] }
  | _ => none }
def FnNextSkipsSpaceAndOneCommaWrongFalsely : Prop := fnNextSkipsSpaceAndOneCommaRow.holds Try.pinned (OpenSpec.ofChange fnNextSkipsSpaceAndOneCommaWrong)

/-- 'zzlaws_internal_api_b1.FnNextStandsOnWhatItFound': WHATEVER THE INPUT: true; the input reads as it did. -/
def fnNextStandsOnWhatItFoundSpec : ChangeSpec := { name := "fnNextStandsOnWhatItFound", fn := fun _ => fun
  | [d1, d2] => { results := [.lit (.bool true)], args := [d1, d2] }
  | _ => none }
def fnNextStandsOnWhatItFoundRow : OpenClaim := { program := "qxb6617306a", sum := "c825a5f6bb3f73a57d7635ff5f4713b7e2d4693f131bd223d19a0f8cf4da8b66", func := "example.com/skewless/skewless/zzlaws_internal_api_b1.FnNextStandsOnWhatItFound", spec := "fnNextStandsOnWhatItFound", apart := false }
def FnNextStandsOnWhatItFoundSaid : Prop := fnNextStandsOnWhatItFoundRow.holds Try.pinned (OpenSpec.ofChange fnNextStandsOnWhatItFoundSpec)

/-- ITS FALSE NEIGHBOUR: 'it returns false'. Refute it at one input. -/
def fnNextStandsOnWhatItFoundWrong : ChangeSpec := { name := "fnNextStandsOnWhatItFound", fn := fun _ => fun
  | [d1, d2] => { results := [.lit (.bool false)], args := [d1, d2] }
  | _ => none }
def FnNextStandsOnWhatItFoundWrongFalsely : Prop := fnNextStandsOnWhatItFoundRow.holds Try.pinned (OpenSpec.ofChange fnNextStandsOnWhatItFoundWrong)

/-- 'zzlaws_internal_api_b1.FnStrReadsToTheFirstUnescapedQuote': WHATEVER THE INPUT: true; the input reads as it did. -/
def fnStrReadsToTheFirstUnescapedQuoteSpec : ChangeSpec := { name := "fnStrReadsToTheFirstUnescapedQuote", fn := fun _ => fun
  | [d1, d2] => { results := [.lit (.bool true)], args := [d1, d2] }
  | _ => none }
def fnStrReadsToTheFirstUnescapedQuoteRow : OpenClaim := { program := "qxb6617306a", sum := "c825a5f6bb3f73a57d7635ff5f4713b7e2d4693f131bd223d19a0f8cf4da8b66", func := "example.com/skewless/skewless/zzlaws_internal_api_b1.FnStrReadsToTheFirstUnescapedQuote", spec := "fnStrReadsToTheFirstUnescapedQuote", inPlace := ["internal/bytealg.IndexByte"], apart := false }
def FnStrReadsToTheFirstUnescapedQuoteSaid : Prop := fnStrReadsToTheFirstUnescapedQuoteRow.holds Try.pinned (OpenSpec.ofChange fnStrReadsToTheFirstUnescapedQuoteSpec)

/-- ITS FALSE NEIGHBOUR: 'it returns false'. Refute it at one input. -/
def fnStrReadsToTheFirstUnescapedQuoteWrong : ChangeSpec := { name := "fnStrReadsToTheFirstUnescapedQuote", fn := fun _ => fun
  | [d1, d2] => { results := [.lit (.bool false)], args := [d1, d2] }
  | _ => none }
def FnStrReadsToTheFirstUnescapedQuoteWrongFalsely : Prop := fnStrReadsToTheFirstUnescapedQuoteRow.holds Try.pinned (OpenSpec.ofChange fnStrReadsToTheFirstUnescapedQuoteWrong)

/-- 'zzlaws_internal_api_b1.FnStrIgnoresBytesAroundTheString': WHATEVER THE INPUT: true; the input reads as it did. -/
def fnStrIgnoresBytesAroundTheStringSpec : ChangeSpec := { name := "fnStrIgnoresBytesAroundTheString", fn := fun _ => fun
  | [d1, d2, d3, d4] => { results := [.lit (.bool true)], args := [d1, d2, d3, d4] }
  | _ => none }
def fnStrIgnoresBytesAroundTheStringRow : OpenClaim := { program := "qxb6617306a", sum := "c825a5f6bb3f73a57d7635ff5f4713b7e2d4693f131bd223d19a0f8cf4da8b66", func := "example.com/skewless/skewless/zzlaws_internal_api_b1.FnStrIgnoresBytesAroundTheString", spec := "fnStrIgnoresBytesAroundTheString", inPlace := ["internal/bytealg.IndexByte"], apart := false }
def FnStrIgnoresBytesAroundTheStringSaid : Prop := fnStrIgnoresBytesAroundTheStringRow.holds Try.pinned (OpenSpec.ofChange fnStrIgnoresBytesAroundTheStringSpec)

/-- ITS FALSE NEIGHBOUR: 'it returns false'. Refute it at one input. -/
def fnStrIgnoresBytesAroundTheStringWrong : ChangeSpec := { name := "fnStrIgnoresBytesAroundTheString", fn := fun _ => fun
  | [d1, d2, d3, d4] => { results := [.lit (.bool false)], args := [d1, d2, d3, d4] }
  | _ => none }
def FnStrIgnoresBytesAroundTheStringWrongFalsely : Prop := fnStrIgnoresBytesAroundTheStringRow.holds Try.pinned (OpenSpec.ofChange fnStrIgnoresBytesAroundTheStringWrong)

end Rows
end Go.Proofs.Qxb6617306a
