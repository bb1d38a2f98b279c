/-
  No cell of these rows narrows 'for every input' (looked for: loops, veiled, ifaces, maps, wideKeys, modest, calm, conditions, laid).
  DERIVED. THE GIVEN ROWS OF THIS SEAT. 6 by the template 'for every input the law returns true; each argument reads behind the call as it read before'; 0 by the template 'total and deterministic' (their statements: Qxb6601636aTotals.lean).
  GIVEN WITH THE SEED: the statements are not yours to turn. If you find one false, say at which input.
  Laid BY PROGRAM, IN A SANDBOX (cutbox-rows.mjs): the forced cells as the released guide's own fill.sh prints them over the translation 18784a4281e4c89c… (all of the seat's roots in one cut). By AI agents, Wed Nov 11 2026. No macro, syntax, notation, axiom, sorry.
-/
import Derived.Test.Qxb6601636aChecked
import GoSem.Claim
import GoSem.ClaimJoined
import GoSem.ClaimMapViews
import Derived.JoinedTies
import Derived.KernelRfl
namespace Go.Proofs.Qxb6601636a
/- THE CELL 'sum', in the pinned program and in every row, IS THE sha256 OF THE DUMP (.gsa) THAT Qxb6601636aProg.lean LOADS. Nothing in Lean hashes anything: it is a label: what it is worth is what the hold of that sum in a sandbox is worth. -/
noncomputable def Try.pinned : Pinned := { name := "qxb6601636a", sum := "18784a4281e4c89c0ac74e152fb3f2c6c7df5a6c96bc955e969a643db2a746d5", checked := Try.checked }
namespace Rows
def none {H : Type} : Left H := { results := [], args := [] }

/-- 'zzlaws_internal_jsonform_b1.FnAppendTextMatchesTreeForm': WHATEVER THE INPUT: true; the input reads as it did. -/
def fnAppendTextMatchesTreeFormSpec : ChangeSpec := { name := "fnAppendTextMatchesTreeForm", fn := fun _ => fun
  | [d1, d2, d3] => { results := [.lit (.bool true)], args := [d1, d2, d3] }
  | _ => none }
def fnAppendTextMatchesTreeFormRow : OpenClaim := { program := "qxb6601636a", sum := "18784a4281e4c89c0ac74e152fb3f2c6c7df5a6c96bc955e969a643db2a746d5", func := "example.com/knotline/knotline/zzlaws_internal_jsonform_b1.FnAppendTextMatchesTreeForm", spec := "fnAppendTextMatchesTreeForm", inPlace := ["internal/bytealg.IndexByte"], recurses := true, apart := false }
def FnAppendTextMatchesTreeFormSaid : Prop := fnAppendTextMatchesTreeFormRow.holds Try.pinned (OpenSpec.ofChange fnAppendTextMatchesTreeFormSpec)

/-- ITS FALSE NEIGHBOUR: 'it returns false'. Refute it at one input. -/
def fnAppendTextMatchesTreeFormWrong : ChangeSpec := { name := "fnAppendTextMatchesTreeForm", fn := fun _ => fun
  | [d1, d2, d3] => { results := [.lit (.bool false)], args := [d1, d2, d3] }
  | _ => none }
def FnAppendTextMatchesTreeFormWrongFalsely : Prop := fnAppendTextMatchesTreeFormRow.holds Try.pinned (OpenSpec.ofChange fnAppendTextMatchesTreeFormWrong)

/-- 'zzlaws_internal_jsonform_b1.FnAppendTextIsIdempotent': WHATEVER THE INPUT: true; the input reads as it did. -/
def fnAppendTextIsIdempotentSpec : ChangeSpec := { name := "fnAppendTextIsIdempotent", fn := fun _ => fun
  | [d1, d2] => { results := [.lit (.bool true)], args := [d1, d2] }
  | _ => none }
def fnAppendTextIsIdempotentRow : OpenClaim := { program := "qxb6601636a", sum := "18784a4281e4c89c0ac74e152fb3f2c6c7df5a6c96bc955e969a643db2a746d5", func := "example.com/knotline/knotline/zzlaws_internal_jsonform_b1.FnAppendTextIsIdempotent", spec := "fnAppendTextIsIdempotent", inPlace := ["internal/bytealg.IndexByte"], recurses := true, apart := false }
def FnAppendTextIsIdempotentSaid : Prop := fnAppendTextIsIdempotentRow.holds Try.pinned (OpenSpec.ofChange fnAppendTextIsIdempotentSpec)

/-- ITS FALSE NEIGHBOUR: 'it returns false'. Refute it at one input. -/
def fnAppendTextIsIdempotentWrong : ChangeSpec := { name := "fnAppendTextIsIdempotent", fn := fun _ => fun
  | [d1, d2] => { results := [.lit (.bool false)], args := [d1, d2] }
  | _ => none }
def FnAppendTextIsIdempotentWrongFalsely : Prop := fnAppendTextIsIdempotentRow.holds Try.pinned (OpenSpec.ofChange fnAppendTextIsIdempotentWrong)

/-- 'zzlaws_internal_jsonform_b1.FnAppendTextChangesOnlyWhitespace': WHATEVER THE INPUT: true; the input reads as it did. -/
def fnAppendTextChangesOnlyWhitespaceSpec : ChangeSpec := { name := "fnAppendTextChangesOnlyWhitespace", fn := fun _ => fun
  | [d1, d2, d3] => { results := [.lit (.bool true)], args := [d1, d2, d3] }
  | _ => none }
def fnAppendTextChangesOnlyWhitespaceRow : OpenClaim := { program := "qxb6601636a", sum := "18784a4281e4c89c0ac74e152fb3f2c6c7df5a6c96bc955e969a643db2a746d5", func := "example.com/knotline/knotline/zzlaws_internal_jsonform_b1.FnAppendTextChangesOnlyWhitespace", spec := "fnAppendTextChangesOnlyWhitespace", inPlace := ["internal/bytealg.IndexByte"], recurses := true, apart := false }
def FnAppendTextChangesOnlyWhitespaceSaid : Prop := fnAppendTextChangesOnlyWhitespaceRow.holds Try.pinned (OpenSpec.ofChange fnAppendTextChangesOnlyWhitespaceSpec)

/-- ITS FALSE NEIGHBOUR: 'it returns false'. Refute it at one input. -/
def fnAppendTextChangesOnlyWhitespaceWrong : ChangeSpec := { name := "fnAppendTextChangesOnlyWhitespace", fn := fun _ => fun
  | [d1, d2, d3] => { results := [.lit (.bool false)], args := [d1, d2, d3] }
  | _ => none }
def FnAppendTextChangesOnlyWhitespaceWrongFalsely : Prop := fnAppendTextChangesOnlyWhitespaceRow.holds Try.pinned (OpenSpec.ofChange fnAppendTextChangesOnlyWhitespaceWrong)

/-- 'zzlaws_internal_jsonform_b1.FnStringEndFindsFirstUnescapedQuote': WHATEVER THE INPUT: true; the input reads as it did. -/
def fnStringEndFindsFirstUnescapedQuoteSpec : ChangeSpec := { name := "fnStringEndFindsFirstUnescapedQuote", fn := fun _ => fun
  | [d1, d2] => { results := [.lit (.bool true)], args := [d1, d2] }
  | _ => none }
def fnStringEndFindsFirstUnescapedQuoteRow : OpenClaim := { program := "qxb6601636a", sum := "18784a4281e4c89c0ac74e152fb3f2c6c7df5a6c96bc955e969a643db2a746d5", func := "example.com/knotline/knotline/zzlaws_internal_jsonform_b1.FnStringEndFindsFirstUnescapedQuote", spec := "fnStringEndFindsFirstUnescapedQuote", inPlace := ["internal/bytealg.IndexByte"], apart := false }
def FnStringEndFindsFirstUnescapedQuoteSaid : Prop := fnStringEndFindsFirstUnescapedQuoteRow.holds Try.pinned (OpenSpec.ofChange fnStringEndFindsFirstUnescapedQuoteSpec)

/-- ITS FALSE NEIGHBOUR: 'it returns false'. Refute it at one input. -/
def fnStringEndFindsFirstUnescapedQuoteWrong : ChangeSpec := { name := "fnStringEndFindsFirstUnescapedQuote", fn := fun _ => fun
  | [d1, d2] => { results := [.lit (.bool false)], args := [d1, d2] }
  | _ => none }
def FnStringEndFindsFirstUnescapedQuoteWrongFalsely : Prop := fnStringEndFindsFirstUnescapedQuoteRow.holds Try.pinned (OpenSpec.ofChange fnStringEndFindsFirstUnescapedQuoteWrong)

/-- 'zzlaws_internal_jsonform_b1.FnStringEndClosesEveryQuotedText': WHATEVER THE INPUT: true; the input reads as it did. -/
def fnStringEndClosesEveryQuotedTextSpec : ChangeSpec := { name := "fnStringEndClosesEveryQuotedText", fn := fun _ => fun
  | [d1, d2, d3] => { results := [.lit (.bool true)], args := [d1, d2, d3] }
  | _ => none }
def fnStringEndClosesEveryQuotedTextRow : OpenClaim := { program := "qxb6601636a", sum := "18784a4281e4c89c0ac74e152fb3f2c6c7df5a6c96bc955e969a643db2a746d5", func := "example.com/knotline/knotline/zzlaws_internal_jsonform_b1.FnStringEndClosesEveryQuotedText", spec := "fnStringEndClosesEveryQuotedText", inPlace := ["internal/bytealg.IndexByte"], apart := false }
def FnStringEndClosesEveryQuotedTextSaid : Prop := fnStringEndClosesEveryQuotedTextRow.holds Try.pinned (OpenSpec.ofChange fnStringEndClosesEveryQuotedTextSpec)

/-- ITS FALSE NEIGHBOUR: 'it returns false'. Refute it at one input. -/
def fnStringEndClosesEveryQuotedTextWrong : ChangeSpec := { name := "fnStringEndClosesEveryQuotedText", fn := fun _ => fun
  | [d1, d2, d3] => { results := [.lit (.bool false)], args := [d1, d2, d3] }
  | _ => none }
def FnStringEndClosesEveryQuotedTextWrongFalsely : Prop := fnStringEndClosesEveryQuotedTextRow.holds Try.pinned (OpenSpec.ofChange fnStringEndClosesEveryQuotedTextWrong)

/-- 'zzlaws_internal_jsonform_b1.FnNewlineClosedForm': WHATEVER THE INPUT: true; the input reads as it did. -/
def fnNewlineClosedFormSpec : ChangeSpec := { name := "fnNewlineClosedForm", fn := fun _ => fun
  | [d1, d2] => { results := [.lit (.bool true)], args := [d1, d2] }
  | _ => none }
def fnNewlineClosedFormRow : OpenClaim := { program := "qxb6601636a", sum := "18784a4281e4c89c0ac74e152fb3f2c6c7df5a6c96bc955e969a643db2a746d5", func := "example.com/knotline/knotline/zzlaws_internal_jsonform_b1.FnNewlineClosedForm", spec := "fnNewlineClosedForm", apart := false }
def FnNewlineClosedFormSaid : Prop := fnNewlineClosedFormRow.holds Try.pinned (OpenSpec.ofChange fnNewlineClosedFormSpec)

/-- ITS FALSE NEIGHBOUR: 'it returns false'. Refute it at one input. -/
def fnNewlineClosedFormWrong : ChangeSpec := { name := "fnNewlineClosedForm", fn := fun _ => fun
  | [d1, d2] => { results := [.lit (.bool false)], args := [d1, d2] }
  | _ => none }
def FnNewlineClosedFormWrongFalsely : Prop := fnNewlineClosedFormRow.holds Try.pinned (OpenSpec.ofChange fnNewlineClosedFormWrong)

end Rows
end Go.Proofs.Qxb6601636a
