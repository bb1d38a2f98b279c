/-
  No cell of these rows narrows 'for every input' (looked for: loops, veiled, ifaces, maps, wideKeys, modest, calm, conditions, laid).
  DERIVED. THE GIVEN ROWS OF THIS SEAT. 5 by the template 'for every input the law returns true; each argument reads behind the call as it read before'; 0 by the template 'total and deterministic' (their statements: Qxb6601275aTotals.lean).
  GIVEN WITH THE SEED: the statements are not yours to turn. If you find one false, say at which input.
  Laid BY PROGRAM, IN A SANDBOX (cutbox-rows.mjs): the forced cells as the released guide's own fill.sh prints them over the translation 7d8a27c7f0f2b40f… (all of the seat's roots in one cut). By AI agents, Wed Nov 11 2026. No macro, syntax, notation, axiom, sorry.
-/
import Derived.Test.Qxb6601275aChecked
import GoSem.Claim
import GoSem.ClaimJoined
import GoSem.ClaimMapViews
import Derived.JoinedTies
import Derived.KernelRfl
namespace Go.Proofs.Qxb6601275a
/- THE CELL 'sum', in the pinned program and in every row, IS THE sha256 OF THE DUMP (.gsa) THAT Qxb6601275aProg.lean LOADS. Nothing in Lean hashes anything: it is a label: what it is worth is what the hold of that sum in a sandbox is worth. -/
noncomputable def Try.pinned : Pinned := { name := "qxb6601275a", sum := "7d8a27c7f0f2b40f90a56c65c626066c335a10f374d1a5715ccb19b87c69ebff", checked := Try.checked }
namespace Rows
def none {H : Type} : Left H := { results := [], args := [] }

/-- 'zzlaws_root_b1.FnNormalizeNameMatchesSegmentModel': WHATEVER THE INPUT: true; the input reads as it did. -/
def fnNormalizeNameMatchesSegmentModelSpec : ChangeSpec := { name := "fnNormalizeNameMatchesSegmentModel", fn := fun _ => fun
  | [d] => { results := [.lit (.bool true)], args := [d] }
  | _ => none }
def fnNormalizeNameMatchesSegmentModelRow : OpenClaim := { program := "qxb6601275a", sum := "7d8a27c7f0f2b40f90a56c65c626066c335a10f374d1a5715ccb19b87c69ebff", func := "example.com/precedence/precedence/zzlaws_root_b1.FnNormalizeNameMatchesSegmentModel", spec := "fnNormalizeNameMatchesSegmentModel", inPlace := ["internal/bytealg.IndexByteString", "internal/abi.NoEscape", "internal/bytealg.MakeNoZero"], apart := false }
def FnNormalizeNameMatchesSegmentModelSaid : Prop := fnNormalizeNameMatchesSegmentModelRow.holds Try.pinned (OpenSpec.ofChange fnNormalizeNameMatchesSegmentModelSpec)

/-- ITS FALSE NEIGHBOUR: 'it returns false'. Refute it at one input. -/
def fnNormalizeNameMatchesSegmentModelWrong : ChangeSpec := { name := "fnNormalizeNameMatchesSegmentModel", fn := fun _ => fun
  | [d] => { results := [.lit (.bool false)], args := [d] }
  | _ => none }
def FnNormalizeNameMatchesSegmentModelWrongFalsely : Prop := fnNormalizeNameMatchesSegmentModelRow.holds Try.pinned (OpenSpec.ofChange fnNormalizeNameMatchesSegmentModelWrong)

/-- 'zzlaws_root_b1.FnNormalizeNameIsIdempotent': WHATEVER THE INPUT: true; the input reads as it did. -/
def fnNormalizeNameIsIdempotentSpec : ChangeSpec := { name := "fnNormalizeNameIsIdempotent", fn := fun _ => fun
  | [d] => { results := [.lit (.bool true)], args := [d] }
  | _ => none }
def fnNormalizeNameIsIdempotentRow : OpenClaim := { program := "qxb6601275a", sum := "7d8a27c7f0f2b40f90a56c65c626066c335a10f374d1a5715ccb19b87c69ebff", func := "example.com/precedence/precedence/zzlaws_root_b1.FnNormalizeNameIsIdempotent", spec := "fnNormalizeNameIsIdempotent", inPlace := ["internal/bytealg.IndexByteString", "internal/abi.NoEscape", "internal/bytealg.MakeNoZero"], apart := false }
def FnNormalizeNameIsIdempotentSaid : Prop := fnNormalizeNameIsIdempotentRow.holds Try.pinned (OpenSpec.ofChange fnNormalizeNameIsIdempotentSpec)

/-- ITS FALSE NEIGHBOUR: 'it returns false'. Refute it at one input. -/
def fnNormalizeNameIsIdempotentWrong : ChangeSpec := { name := "fnNormalizeNameIsIdempotent", fn := fun _ => fun
  | [d] => { results := [.lit (.bool false)], args := [d] }
  | _ => none }
def FnNormalizeNameIsIdempotentWrongFalsely : Prop := fnNormalizeNameIsIdempotentRow.holds Try.pinned (OpenSpec.ofChange fnNormalizeNameIsIdempotentWrong)

/-- 'zzlaws_root_b1.FnPathStateNextMatchesMeaning': WHATEVER THE INPUT: true; the input reads as it did. -/
def fnPathStateNextMatchesMeaningSpec : ChangeSpec := { name := "fnPathStateNextMatchesMeaning", fn := fun _ => fun
  | [d1, d2] => { results := [.lit (.bool true)], args := [d1, d2] }
  | _ => none }
def fnPathStateNextMatchesMeaningRow : OpenClaim := { program := "qxb6601275a", sum := "7d8a27c7f0f2b40f90a56c65c626066c335a10f374d1a5715ccb19b87c69ebff", func := "example.com/precedence/precedence/zzlaws_root_b1.FnPathStateNextMatchesMeaning", spec := "fnPathStateNextMatchesMeaning", apart := false }
def FnPathStateNextMatchesMeaningSaid : Prop := fnPathStateNextMatchesMeaningRow.holds Try.pinned (OpenSpec.ofChange fnPathStateNextMatchesMeaningSpec)

/-- ITS FALSE NEIGHBOUR: 'it returns false'. Refute it at one input. -/
def fnPathStateNextMatchesMeaningWrong : ChangeSpec := { name := "fnPathStateNextMatchesMeaning", fn := fun _ => fun
  | [d1, d2] => { results := [.lit (.bool false)], args := [d1, d2] }
  | _ => none }
def FnPathStateNextMatchesMeaningWrongFalsely : Prop := fnPathStateNextMatchesMeaningRow.holds Try.pinned (OpenSpec.ofChange fnPathStateNextMatchesMeaningWrong)

/-- 'zzlaws_root_b1.FnPathStateReadsWhatItMeans': WHATEVER THE INPUT: true; the input reads as it did. -/
def fnPathStateReadsWhatItMeansSpec : ChangeSpec := { name := "fnPathStateReadsWhatItMeans", fn := fun _ => fun
  | [d] => { results := [.lit (.bool true)], args := [d] }
  | _ => none }
def fnPathStateReadsWhatItMeansRow : OpenClaim := { program := "qxb6601275a", sum := "7d8a27c7f0f2b40f90a56c65c626066c335a10f374d1a5715ccb19b87c69ebff", func := "example.com/precedence/precedence/zzlaws_root_b1.FnPathStateReadsWhatItMeans", spec := "fnPathStateReadsWhatItMeans", apart := false }
def FnPathStateReadsWhatItMeansSaid : Prop := fnPathStateReadsWhatItMeansRow.holds Try.pinned (OpenSpec.ofChange fnPathStateReadsWhatItMeansSpec)

/-- ITS FALSE NEIGHBOUR: 'it returns false'. Refute it at one input. -/
def fnPathStateReadsWhatItMeansWrong : ChangeSpec := { name := "fnPathStateReadsWhatItMeans", fn := fun _ => fun
  | [d] => { results := [.lit (.bool false)], args := [d] }
  | _ => none }
def FnPathStateReadsWhatItMeansWrongFalsely : Prop := fnPathStateReadsWhatItMeansRow.holds Try.pinned (OpenSpec.ofChange fnPathStateReadsWhatItMeansWrong)

/-- 'zzlaws_root_b1.FnJoinRulesSplitsAtAnyCut': WHATEVER THE INPUT: true; the input reads as it did. -/
def fnJoinRulesSplitsAtAnyCutSpec : ChangeSpec := { name := "fnJoinRulesSplitsAtAnyCut", fn := fun _ => fun
  | [d1, d2] => { results := [.lit (.bool true)], args := [d1, d2] }
  | _ => none }
def fnJoinRulesSplitsAtAnyCutRow : OpenClaim := { program := "qxb6601275a", sum := "7d8a27c7f0f2b40f90a56c65c626066c335a10f374d1a5715ccb19b87c69ebff", func := "example.com/precedence/precedence/zzlaws_root_b1.FnJoinRulesSplitsAtAnyCut", spec := "fnJoinRulesSplitsAtAnyCut", inPlace := ["internal/abi.NoEscape", "internal/bytealg.MakeNoZero"], apart := false }
def FnJoinRulesSplitsAtAnyCutSaid : Prop := fnJoinRulesSplitsAtAnyCutRow.holds Try.pinned (OpenSpec.ofChange fnJoinRulesSplitsAtAnyCutSpec)

/-- ITS FALSE NEIGHBOUR: 'it returns false'. Refute it at one input. -/
def fnJoinRulesSplitsAtAnyCutWrong : ChangeSpec := { name := "fnJoinRulesSplitsAtAnyCut", fn := fun _ => fun
  | [d1, d2] => { results := [.lit (.bool false)], args := [d1, d2] }
  | _ => none }
def FnJoinRulesSplitsAtAnyCutWrongFalsely : Prop := fnJoinRulesSplitsAtAnyCutRow.holds Try.pinned (OpenSpec.ofChange fnJoinRulesSplitsAtAnyCutWrong)

end Rows
end Go.Proofs.Qxb6601275a
