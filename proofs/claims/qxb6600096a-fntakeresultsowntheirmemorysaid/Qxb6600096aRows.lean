/-
  No cell of these rows narrows 'for every input' (looked for: loops, veiled, ifaces, maps, wideKeys, modest, calm, conditions, laid).
  DERIVED. THE GIVEN ROWS OF THIS SEAT. 8 by the template 'for every input the law returns true; each argument reads behind the call as it read before'; 0 by the template 'total and deterministic' (their statements: Qxb6600096aTotals.lean).
  GIVEN WITH THE SEED: the statements are not yours to turn. If you find one false, say at which input.
  Laid BY PROGRAM, IN A SANDBOX (cutbox-rows.mjs): the forced cells as the released guide's own fill.sh prints them over the translation 7ef4505e8dc10b8d… (all of the seat's roots in one cut). By AI agents, Wed Nov 11 2026. No macro, syntax, notation, axiom, sorry.
-/
import Derived.Test.Qxb6600096aChecked
import GoSem.Claim
import GoSem.ClaimJoined
import GoSem.ClaimMapViews
import Derived.JoinedTies
import Derived.KernelRfl
namespace Go.Proofs.Qxb6600096a
/- THE CELL 'sum', in the pinned program and in every row, IS THE sha256 OF THE DUMP (.gsa) THAT Qxb6600096aProg.lean LOADS. Nothing in Lean hashes anything: it is a label: what it is worth is what the hold of that sum in a sandbox is worth. -/
noncomputable def Try.pinned : Pinned := { name := "qxb6600096a", sum := "7ef4505e8dc10b8d59d608ce47ded253a49bf64569a81ce248047ddd71d58965", checked := Try.checked }
namespace Rows
def none {H : Type} : Left H := { results := [], args := [] }

/-- 'zzlaws_root_b1.FnUnescapeValueSplitsOverConcat': WHATEVER THE INPUT: true; the input reads as it did. -/
def fnUnescapeValueSplitsOverConcatSpec : ChangeSpec := { name := "fnUnescapeValueSplitsOverConcat", fn := fun _ => fun
  | [d1, d2] => { results := [.lit (.bool true)], args := [d1, d2] }
  | _ => none }
def fnUnescapeValueSplitsOverConcatRow : OpenClaim := { program := "qxb6600096a", sum := "7ef4505e8dc10b8d59d608ce47ded253a49bf64569a81ce248047ddd71d58965", func := "example.com/caveat/caveat/zzlaws_root_b1.FnUnescapeValueSplitsOverConcat", spec := "fnUnescapeValueSplitsOverConcat", inPlace := ["internal/abi.NoEscape", "internal/bytealg.MakeNoZero"], apart := false }
def FnUnescapeValueSplitsOverConcatSaid : Prop := fnUnescapeValueSplitsOverConcatRow.holds Try.pinned (OpenSpec.ofChange fnUnescapeValueSplitsOverConcatSpec)

/-- ITS FALSE NEIGHBOUR: 'it returns false'. Refute it at one input. -/
def fnUnescapeValueSplitsOverConcatWrong : ChangeSpec := { name := "fnUnescapeValueSplitsOverConcat", fn := fun _ => fun
  | [d1, d2] => { results := [.lit (.bool false)], args := [d1, d2] }
  | _ => none }
def FnUnescapeValueSplitsOverConcatWrongFalsely : Prop := fnUnescapeValueSplitsOverConcatRow.holds Try.pinned (OpenSpec.ofChange fnUnescapeValueSplitsOverConcatWrong)

/-- 'zzlaws_root_b1.FnUnescapeValueLengthBounds': WHATEVER THE INPUT: true; the input reads as it did. -/
def fnUnescapeValueLengthBoundsSpec : ChangeSpec := { name := "fnUnescapeValueLengthBounds", fn := fun _ => fun
  | [d] => { results := [.lit (.bool true)], args := [d] }
  | _ => none }
def fnUnescapeValueLengthBoundsRow : OpenClaim := { program := "qxb6600096a", sum := "7ef4505e8dc10b8d59d608ce47ded253a49bf64569a81ce248047ddd71d58965", func := "example.com/caveat/caveat/zzlaws_root_b1.FnUnescapeValueLengthBounds", spec := "fnUnescapeValueLengthBounds", inPlace := ["internal/abi.NoEscape", "internal/bytealg.MakeNoZero"], apart := false }
def FnUnescapeValueLengthBoundsSaid : Prop := fnUnescapeValueLengthBoundsRow.holds Try.pinned (OpenSpec.ofChange fnUnescapeValueLengthBoundsSpec)

/-- ITS FALSE NEIGHBOUR: 'it returns false'. Refute it at one input. -/
def fnUnescapeValueLengthBoundsWrong : ChangeSpec := { name := "fnUnescapeValueLengthBounds", fn := fun _ => fun
  | [d] => { results := [.lit (.bool false)], args := [d] }
  | _ => none }
def FnUnescapeValueLengthBoundsWrongFalsely : Prop := fnUnescapeValueLengthBoundsRow.holds Try.pinned (OpenSpec.ofChange fnUnescapeValueLengthBoundsWrong)

/-- 'zzlaws_root_b1.FnUnescapeValueInvertsAppendText': WHATEVER THE INPUT: true; the input reads as it did. -/
def fnUnescapeValueInvertsAppendTextSpec : ChangeSpec := { name := "fnUnescapeValueInvertsAppendText", fn := fun _ => fun
  | [d1, d2, d3] => { results := [.lit (.bool true)], args := [d1, d2, d3] }
  | _ => none }
def fnUnescapeValueInvertsAppendTextRow : OpenClaim := { program := "qxb6600096a", sum := "7ef4505e8dc10b8d59d608ce47ded253a49bf64569a81ce248047ddd71d58965", func := "example.com/caveat/caveat/zzlaws_root_b1.FnUnescapeValueInvertsAppendText", spec := "fnUnescapeValueInvertsAppendText", inPlace := ["internal/bytealg.IndexByteString", "internal/abi.NoEscape", "internal/bytealg.MakeNoZero"], apart := false }
def FnUnescapeValueInvertsAppendTextSaid : Prop := fnUnescapeValueInvertsAppendTextRow.holds Try.pinned (OpenSpec.ofChange fnUnescapeValueInvertsAppendTextSpec)

/-- ITS FALSE NEIGHBOUR: 'it returns false'. Refute it at one input. -/
def fnUnescapeValueInvertsAppendTextWrong : ChangeSpec := { name := "fnUnescapeValueInvertsAppendText", fn := fun _ => fun
  | [d1, d2, d3] => { results := [.lit (.bool false)], args := [d1, d2, d3] }
  | _ => none }
def FnUnescapeValueInvertsAppendTextWrongFalsely : Prop := fnUnescapeValueInvertsAppendTextRow.holds Try.pinned (OpenSpec.ofChange fnUnescapeValueInvertsAppendTextWrong)

/-- 'zzlaws_root_b1.FnAppendTextExtendsDst': WHATEVER THE INPUT: true; the input reads as it did. -/
def fnAppendTextExtendsDstSpec : ChangeSpec := { name := "fnAppendTextExtendsDst", fn := fun _ => fun
  | [d1, d2, d3, d4] => { results := [.lit (.bool true)], args := [d1, d2, d3, d4] }
  | _ => none }
def fnAppendTextExtendsDstRow : OpenClaim := { program := "qxb6600096a", sum := "7ef4505e8dc10b8d59d608ce47ded253a49bf64569a81ce248047ddd71d58965", func := "example.com/caveat/caveat/zzlaws_root_b1.FnAppendTextExtendsDst", spec := "fnAppendTextExtendsDst", inPlace := ["internal/bytealg.IndexByteString"], apart := false }
def FnAppendTextExtendsDstSaid : Prop := fnAppendTextExtendsDstRow.holds Try.pinned (OpenSpec.ofChange fnAppendTextExtendsDstSpec)

/-- ITS FALSE NEIGHBOUR: 'it returns false'. Refute it at one input. -/
def fnAppendTextExtendsDstWrong : ChangeSpec := { name := "fnAppendTextExtendsDst", fn := fun _ => fun
  | [d1, d2, d3, d4] => { results := [.lit (.bool false)], args := [d1, d2, d3, d4] }
  | _ => none }
def FnAppendTextExtendsDstWrongFalsely : Prop := fnAppendTextExtendsDstRow.holds Try.pinned (OpenSpec.ofChange fnAppendTextExtendsDstWrong)

/-- 'zzlaws_root_b1.FnAppendTextJoinsWithBar': WHATEVER THE INPUT: true; the input reads as it did. -/
def fnAppendTextJoinsWithBarSpec : ChangeSpec := { name := "fnAppendTextJoinsWithBar", fn := fun _ => fun
  | [d1, d2, d3, d4] => { results := [.lit (.bool true)], args := [d1, d2, d3, d4] }
  | _ => none }
def fnAppendTextJoinsWithBarRow : OpenClaim := { program := "qxb6600096a", sum := "7ef4505e8dc10b8d59d608ce47ded253a49bf64569a81ce248047ddd71d58965", func := "example.com/caveat/caveat/zzlaws_root_b1.FnAppendTextJoinsWithBar", spec := "fnAppendTextJoinsWithBar", inPlace := ["internal/bytealg.IndexByteString"], apart := false }
def FnAppendTextJoinsWithBarSaid : Prop := fnAppendTextJoinsWithBarRow.holds Try.pinned (OpenSpec.ofChange fnAppendTextJoinsWithBarSpec)

/-- ITS FALSE NEIGHBOUR: 'it returns false'. Refute it at one input. -/
def fnAppendTextJoinsWithBarWrong : ChangeSpec := { name := "fnAppendTextJoinsWithBar", fn := fun _ => fun
  | [d1, d2, d3, d4] => { results := [.lit (.bool false)], args := [d1, d2, d3, d4] }
  | _ => none }
def FnAppendTextJoinsWithBarWrongFalsely : Prop := fnAppendTextJoinsWithBarRow.holds Try.pinned (OpenSpec.ofChange fnAppendTextJoinsWithBarWrong)

/-- 'zzlaws_root_b1.FnAppendTextSplitsBack': WHATEVER THE INPUT: true; the input reads as it did. -/
def fnAppendTextSplitsBackSpec : ChangeSpec := { name := "fnAppendTextSplitsBack", fn := fun _ => fun
  | [d1, d2, d3] => { results := [.lit (.bool true)], args := [d1, d2, d3] }
  | _ => none }
def fnAppendTextSplitsBackRow : OpenClaim := { program := "qxb6600096a", sum := "7ef4505e8dc10b8d59d608ce47ded253a49bf64569a81ce248047ddd71d58965", func := "example.com/caveat/caveat/zzlaws_root_b1.FnAppendTextSplitsBack", spec := "fnAppendTextSplitsBack", inPlace := ["internal/bytealg.IndexByteString"], apart := false }
def FnAppendTextSplitsBackSaid : Prop := fnAppendTextSplitsBackRow.holds Try.pinned (OpenSpec.ofChange fnAppendTextSplitsBackSpec)

/-- ITS FALSE NEIGHBOUR: 'it returns false'. Refute it at one input. -/
def fnAppendTextSplitsBackWrong : ChangeSpec := { name := "fnAppendTextSplitsBack", fn := fun _ => fun
  | [d1, d2, d3] => { results := [.lit (.bool false)], args := [d1, d2, d3] }
  | _ => none }
def FnAppendTextSplitsBackWrongFalsely : Prop := fnAppendTextSplitsBackRow.holds Try.pinned (OpenSpec.ofChange fnAppendTextSplitsBackWrong)

/-- 'zzlaws_root_b1.FnTakeInvertsAppendText': WHATEVER THE INPUT: true; the input reads as it did. -/
def fnTakeInvertsAppendTextSpec : ChangeSpec := { name := "fnTakeInvertsAppendText", fn := fun _ => fun
  | [d1, d2, d3, d4] => { results := [.lit (.bool true)], args := [d1, d2, d3, d4] }
  | _ => none }
def fnTakeInvertsAppendTextRow : OpenClaim := { program := "qxb6600096a", sum := "7ef4505e8dc10b8d59d608ce47ded253a49bf64569a81ce248047ddd71d58965", func := "example.com/caveat/caveat/zzlaws_root_b1.FnTakeInvertsAppendText", spec := "fnTakeInvertsAppendText", inPlace := ["internal/bytealg.IndexByteString", "internal/abi.NoEscape", "internal/bytealg.MakeNoZero"], apart := false }
def FnTakeInvertsAppendTextSaid : Prop := fnTakeInvertsAppendTextRow.holds Try.pinned (OpenSpec.ofChange fnTakeInvertsAppendTextSpec)

/-- ITS FALSE NEIGHBOUR: 'it returns false'. Refute it at one input. -/
def fnTakeInvertsAppendTextWrong : ChangeSpec := { name := "fnTakeInvertsAppendText", fn := fun _ => fun
  | [d1, d2, d3, d4] => { results := [.lit (.bool false)], args := [d1, d2, d3, d4] }
  | _ => none }
def FnTakeInvertsAppendTextWrongFalsely : Prop := fnTakeInvertsAppendTextRow.holds Try.pinned (OpenSpec.ofChange fnTakeInvertsAppendTextWrong)

/-- 'zzlaws_root_b1.FnTakeResultsOwnTheirMemory': WHATEVER THE INPUT: true; the input reads as it did. -/
def fnTakeResultsOwnTheirMemorySpec : ChangeSpec := { name := "fnTakeResultsOwnTheirMemory", fn := fun _ => fun
  | [d1, d2, d3, d4] => { results := [.lit (.bool true)], args := [d1, d2, d3, d4] }
  | _ => none }
def fnTakeResultsOwnTheirMemoryRow : OpenClaim := { program := "qxb6600096a", sum := "7ef4505e8dc10b8d59d608ce47ded253a49bf64569a81ce248047ddd71d58965", func := "example.com/caveat/caveat/zzlaws_root_b1.FnTakeResultsOwnTheirMemory", spec := "fnTakeResultsOwnTheirMemory", inPlace := ["internal/bytealg.IndexByteString", "internal/abi.NoEscape", "internal/bytealg.MakeNoZero"], apart := false }
def FnTakeResultsOwnTheirMemorySaid : Prop := fnTakeResultsOwnTheirMemoryRow.holds Try.pinned (OpenSpec.ofChange fnTakeResultsOwnTheirMemorySpec)

/-- ITS FALSE NEIGHBOUR: 'it returns false'. Refute it at one input. -/
def fnTakeResultsOwnTheirMemoryWrong : ChangeSpec := { name := "fnTakeResultsOwnTheirMemory", fn := fun _ => fun
  | [d1, d2, d3, d4] => { results := [.lit (.bool false)], args := [d1, d2, d3, d4] }
  | _ => none }
def FnTakeResultsOwnTheirMemoryWrongFalsely : Prop := fnTakeResultsOwnTheirMemoryRow.holds Try.pinned (OpenSpec.ofChange fnTakeResultsOwnTheirMemoryWrong)

end Rows
end Go.Proofs.Qxb6600096a
