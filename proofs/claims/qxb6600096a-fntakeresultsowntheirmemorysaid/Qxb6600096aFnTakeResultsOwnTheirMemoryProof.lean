/-
  The statement 'Rows.FnTakeResultsOwnTheirMemorySaid': the row's step over the walk 'ownmem_any'.
-/
import Derived.Test.Qxb6600096aRows
import Derived.Test.Qxb6600096aOwnMem
import Derived.Test.Qxb6600096aOpen2
import Derived.WalkKit
import Derived.ProofKit
import Derived.OpenShut
import Derived.ShutString
import Derived.ChangeOld
import Derived.Below
import Derived.SliceStrings
namespace Go.Proofs.Qxb6600096a.fnTakeResultsOwnTheirMemory
open Go.ChangeShapes Go.WideShapes Go.ChangeAt Go.RowKit
set_option linter.unusedVariables false

theorem own : ownKnob Try.prog.godebug = none := by kernel_rfl
theorem laidOut : laidOutB Try.prog = true := by kernel_rfl

set_option maxRecDepth 100000 in
theorem lifted (os : Os) (started : os.Started) (H : Type) (enc : TypeId × Value → H) :
    ReturnsInHanded {} Try.checked os 10 .any (Rows.fnTakeResultsOwnTheirMemorySpec.pre6 enc Try.prog Try.f10 Rows.fnTakeResultsOwnTheirMemoryRow.domain false) (Rows.fnTakeResultsOwnTheirMemorySpec.post enc Try.prog Try.f10 false true false false) := by
  refine returnsInHanded_of_change (C := Try.checked) own started (by kernel_rfl) Try.func10
    (ChangeSpec.witness6 (enc := enc) (C := Try.checked) false ⟨#[], #[.slice none 0 0, .slice none 0 0, .slice none 0 0, .slice none 0 0], []⟩ 8 (by kernel_rfl) (by kernel_rfl) (by kernel_rfl) (by kernel_rfl)) ?_
  intro W base args ds gs before hval0 hW hcnd _
  have hval : ∀ (j : Nat) t v, Try.f10.params[j]? = some t → args[j]? = some v → Value.okWide Try.prog W .any base t v := hval0
  have hW' := hW
  obtain ⟨p, q, hA0, hV, rfl, hfz, hnd⟩ := hW
  have hA : DataW.TrodAll enc Try.prog W 0 (fun _ => true) true Try.f10.params.toList args.toList ds p := hA0
  rw [Try.params10] at hA hval
  obtain ⟨v0, vs0, d0, ds0, p0, q0, hargs, rfl, rfl, h0, r0⟩ := trodAll_cons hA
  obtain ⟨v1, vs1, d1, ds1, p1, q1, rfl, rfl, rfl, h1, r1⟩ := trodAll_cons r0
  obtain ⟨v2, vs2, d2, ds2, p2, q2, rfl, rfl, rfl, h2, r2⟩ := trodAll_cons r1
  obtain ⟨v3, vs3, d3, ds3, p3, q3, rfl, rfl, rfl, h3, r3⟩ := trodAll_cons r2
  obtain ⟨rfl, rfl, rfl⟩ := trodAll_nil r3
  obtain rfl : args = #[v0, v1, v2, v3] := by cases args; simp_all
  obtain ⟨rfl, rfl⟩ := trodVars_none hV
  obtain ⟨a0, len0, cap0, rfl⟩ := okWide_slice Try.underlying35 (hval 0 35 v0 rfl rfl)
  have k0 := h0
  have lt0 : ∀ x ∈ p0, x.block < W.heap.size := by obtain ⟨m, hm⟩ := k0; exact DataW.trod_lt m _ _ _ hm
  obtain ⟨fs, rfl, m0, w0⟩ : ∃ ss : List ByteArray, ss.length = len0 ∧ len0 ≤ maxLen ∧ Strs W a0 ss := by obtain ⟨fuel, hf⟩ := h0; exact open_strsArg hf
  obtain ⟨a1, len1, cap1, rfl⟩ := okWide_slice Try.underlying33 (hval 1 33 v1 rfl rfl)
  have k1 := h1
  have lt1 : ∀ x ∈ p1, x.block < W.heap.size := by obtain ⟨m, hm⟩ := k1; exact DataW.trod_lt m _ _ _ hm
  obtain ⟨zs, rfl, m1, w1, b1⟩ : ∃ zs : List Int, zs.length = len1 ∧ len1 ≤ maxLen ∧ Nums .u8 W a1 zs ∧ ∀ z ∈ zs, 0 ≤ z ∧ z ≤ 255 := by obtain ⟨fuel, hf⟩ := h1; exact open_bytesArg hf
  obtain ⟨a2, len2, cap2, rfl⟩ := okWide_slice Try.underlying35 (hval 2 35 v2 rfl rfl)
  have k2 := h2
  have lt2 : ∀ x ∈ p2, x.block < W.heap.size := by obtain ⟨m, hm⟩ := k2; exact DataW.trod_lt m _ _ _ hm
  obtain ⟨vs, rfl, m2, w2⟩ : ∃ ss : List ByteArray, ss.length = len2 ∧ len2 ≤ maxLen ∧ Strs W a2 ss := by obtain ⟨fuel, hf⟩ := h2; exact open_strsArg hf
  obtain ⟨a3, len3, cap3, rfl⟩ := okWide_slice Try.underlying46 (hval 3 46 v3 rfl rfl)
  have k3 := h3
  have lt3 : ∀ x ∈ p3, x.block < W.heap.size := by obtain ⟨m, hm⟩ := k3; exact DataW.trod_lt m _ _ _ hm
  obtain ⟨bk, rfl, m3, w3⟩ : ∃ bs : List Bool, bs.length = len3 ∧ len3 ≤ maxLen ∧ Bools W a3 bs := by obtain ⟨fuel, hf⟩ := h3; exact open_boolsArg hf
  clear hA0 hval0
  refine (ownmem_any a0 a1 a2 a3 fs vs zs bk cap0 cap1 cap2 cap3 W m0 m2 w0 w1 w2 w3 b1).mono fun e W' ⟨he, bel⟩ => ?_
  subst he
  exact ⟨_, rfl, _, _, _, [], _, [], hW', trodAll_mk1 (shut_bool Try.underlying4 _), (trodAll_cons_mk (Below.trod laidOut (by kernel_rfl) (of_decide_eq_true (by kernel_rfl)) k0 bel lt0) (trodAll_cons_mk (Below.trod laidOut (by kernel_rfl) (of_decide_eq_true (by kernel_rfl)) k1 bel lt1) (trodAll_cons_mk (Below.trod laidOut (by kernel_rfl) (of_decide_eq_true (by kernel_rfl)) k2 bel lt2) (trodAll_cons_mk (Below.trod laidOut (by kernel_rfl) (of_decide_eq_true (by kernel_rfl)) k3 bel lt3) trodAll_mk0)))), rfl, bel.frame _, fun h => by cases h⟩

theorem over : Rows.fnTakeResultsOwnTheirMemoryRow.holds Try.pinned (OpenSpec.ofChange Rows.fnTakeResultsOwnTheirMemorySpec) :=
  OpenClaim.holds_of_wide 10 Try.f10 rfl rfl rfl rfl rfl rfl rfl ⟨rfl, rfl, rfl, rfl, rfl⟩ rfl rfl rfl rfl rfl (by kernel_rfl) Try.func10 (by kernel_rfl)
    (of_decide_eq_true (by kernel_rfl)) (by unfold Func.isWrapper; first | (rw [if_pos (by decide +kernel)]; kernel_rfl) | (rw [if_neg (by decide +kernel)]; exact ⟨rfl, rfl⟩))
    (fun os started H enc _ => lifted os started H enc)

end Go.Proofs.Qxb6600096a.fnTakeResultsOwnTheirMemory

namespace Go.Proofs.Qxb6600096a
/-- THE STATEMENT -/
theorem takeResultsOwnTheirMemory_proved : Rows.FnTakeResultsOwnTheirMemorySaid := fnTakeResultsOwnTheirMemory.over
end Go.Proofs.Qxb6600096a
