/-
  No cell of these rows narrows 'for every input' (looked for: loops, veiled, ifaces, maps, wideKeys, modest, calm, conditions, laid).
  DERIVED. THE GIVEN ROWS OF THIS SEAT. 2 by the template 'for every input the law returns true; each argument reads behind the call as it read before'; 0 by the template 'total and deterministic' (their statements: Qxb6601314aTotals.lean).
  GIVEN WITH THE SEED: the statements are not yours to turn. If you find one false, say at which input.
  Laid BY PROGRAM, IN A SANDBOX (cutbox-rows.mjs): the forced cells as the released guide's own fill.sh prints them over the translation 4ea0aadf38d9d8ec… (all of the seat's roots in one cut). By AI agents, Wed Nov 11 2026. No macro, syntax, notation, axiom, sorry.
-/
import Derived.Test.Qxb6601314aChecked
import GoSem.Claim
import GoSem.ClaimJoined
import GoSem.ClaimMapViews
import Derived.JoinedTies
import Derived.KernelRfl
namespace Go.Proofs.Qxb6601314a
/- THE CELL 'sum', in the pinned program and in every row, IS THE sha256 OF THE DUMP (.gsa) THAT Qxb6601314aProg.lean LOADS. Nothing in Lean hashes anything: it is a label: what it is worth is what the hold of that sum in a sandbox is worth. -/
noncomputable def Try.pinned : Pinned := { name := "qxb6601314a", sum := "4ea0aadf38d9d8ecd5e3f841484a00b5a02dfde6a8bca8ea7003742a356b0cdf", checked := Try.checked }
namespace Rows
def none {H : Type} : Left H := { results := [], args := [] }

/-- 'zzlaws_internal_azurekv_b1.FnParamValueSpec': WHATEVER THE INPUT: true; the input reads as it did. -/
def fnParamValueSpecSpec : ChangeSpec := { name := "fnParamValueSpec", fn := fun _ => fun
  | [d] => { results := [.lit (.bool true)], args := [d] }
  | _ => none }
def fnParamValueSpecRow : OpenClaim := { program := "qxb6601314a", sum := "4ea0aadf38d9d8ecd5e3f841484a00b5a02dfde6a8bca8ea7003742a356b0cdf", func := "example.com/warden-of-keys/warden-of-keys/zzlaws_internal_azurekv_b1.FnParamValueSpec", spec := "fnParamValueSpec", inPlace := ["internal/bytealg.IndexByteString", "internal/bytealg.IndexString", "internal/abi.NoEscape"], named := ["internal/bytealg.MaxLen"], apart := false }
def FnParamValueSpecSaid : Prop := fnParamValueSpecRow.holds Try.pinned (OpenSpec.ofChange fnParamValueSpecSpec)

/-- ITS FALSE NEIGHBOUR: 'it returns false'. Refute it at one input. -/
def fnParamValueSpecWrong : ChangeSpec := { name := "fnParamValueSpec", fn := fun _ => fun
  | [d] => { results := [.lit (.bool false)], args := [d] }
  | _ => none }
def FnParamValueSpecWrongFalsely : Prop := fnParamValueSpecRow.holds Try.pinned (OpenSpec.ofChange fnParamValueSpecWrong)

/-- 'zzlaws_internal_azurekv_b1.FnParamValueQuoteRoundTrip': WHATEVER THE INPUT: true; the input reads as it did. -/
def fnParamValueQuoteRoundTripSpec : ChangeSpec := { name := "fnParamValueQuoteRoundTrip", fn := fun _ => fun
  | [d1, d2, d3] => { results := [.lit (.bool true)], args := [d1, d2, d3] }
  | _ => none }
def fnParamValueQuoteRoundTripRow : OpenClaim := { program := "qxb6601314a", sum := "4ea0aadf38d9d8ecd5e3f841484a00b5a02dfde6a8bca8ea7003742a356b0cdf", func := "example.com/warden-of-keys/warden-of-keys/zzlaws_internal_azurekv_b1.FnParamValueQuoteRoundTrip", spec := "fnParamValueQuoteRoundTrip", inPlace := ["internal/bytealg.IndexByteString", "internal/bytealg.IndexString", "internal/abi.NoEscape"], named := ["internal/bytealg.MaxLen"], apart := false }
def FnParamValueQuoteRoundTripSaid : Prop := fnParamValueQuoteRoundTripRow.holds Try.pinned (OpenSpec.ofChange fnParamValueQuoteRoundTripSpec)

/-- ITS FALSE NEIGHBOUR: 'it returns false'. Refute it at one input. -/
def fnParamValueQuoteRoundTripWrong : ChangeSpec := { name := "fnParamValueQuoteRoundTrip", fn := fun _ => fun
  | [d1, d2, d3] => { results := [.lit (.bool false)], args := [d1, d2, d3] }
  | _ => none }
def FnParamValueQuoteRoundTripWrongFalsely : Prop := fnParamValueQuoteRoundTripRow.holds Try.pinned (OpenSpec.ofChange fnParamValueQuoteRoundTripWrong)

end Rows
end Go.Proofs.Qxb6601314a
