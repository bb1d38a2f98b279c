/-
  Arguments that came in, opened: '[]string', '[]byte'.
-/
import Derived.Test.Qxb6600096aSmall
import Derived.ProofKit
import Derived.OpenShut
import Derived.SliceStrings
namespace Go.Proofs.Qxb6600096a
open Go.ChangeShapes Go.WideShapes Go.ChangeAt Go.RowKit

theorem strs_of_cells {W : World} {x : Addr} {ss : List ByteArray} {len : Nat} (hcell : ∀ i, i < ss.length → W.cell? (x.add i) = some (.string (ss.getD i ByteArray.empty))) (hws : ∀ s ∈ ss, s.size ≤ maxLen) : Strs W (some x) (ss.take len) := by
  intro k s hs
  have hk : k < ss.length := by
    have := (List.getElem?_eq_some_iff.1 hs).1
    rw [List.length_take] at this
    omega
  have e : ss.getD k ByteArray.empty = s := by
    rw [List.getElem?_take] at hs
    split at hs
    · rw [List.getD_eq_getElem?_getD, hs]; rfl
    · cases hs
  obtain ⟨b, off, spot⟩ := x
  have hspot : spot = none := by simpa [Addr.add] using World.cell?_spot (hcell 0 (by omega))
  subst hspot
  refine ⟨b, off, rfl, ?_, hws s (List.mem_of_mem_take (List.mem_of_getElem? hs))⟩
  rw [← add_plain, hcell k hk, e]

theorem nums_of_cells {K : IntKind} {W : World} {x : Addr} {zs : List Int} {len : Nat} (hcell : ∀ i, i < zs.length → W.cell? (x.add i) = some (.int K (zs.getD i 0))) : Nums K W (some x) (zs.take len) := by
  intro k z hs
  have hk : k < zs.length := by
    have := (List.getElem?_eq_some_iff.1 hs).1
    rw [List.length_take] at this
    omega
  have e : zs.getD k 0 = z := by
    rw [List.getElem?_take] at hs
    split at hs
    · rw [List.getD_eq_getElem?_getD, hs]; rfl
    · cases hs
  obtain ⟨b, off, spot⟩ := x
  have hspot : spot = none := by simpa [Addr.add] using World.cell?_spot (hcell 0 (by omega))
  subst hspot
  refine ⟨b, off, rfl, ?_⟩
  rw [← add_plain, hcell k hk, e]

/-- A '[]string' that came in, opened. -/
theorem open_strsArg {H : Type} {enc : TypeId × Value → H} {W : World} {a : Option Addr} {len cap fuel : Nat} {y : DataW H × List MemPlace}
    (hf : DataW.trod enc Try.prog W 0 (fun _ => true) true fuel 35 (Value.slice a len cap).cells.toList = some y) : ∃ ss : List ByteArray, ss.length = len ∧ len ≤ maxLen ∧ Strs W a ss := by
  rcases open_strings Try.underlying35 Try.underlying9 (by kernel_rfl) hf with ⟨hcs, _⟩ | ⟨x, l, c, ss, hcs, _, hl, hm, hz, _, hcell, hws⟩
  · simp [Value.cells] at hcs
    obtain ⟨rfl, rfl, rfl⟩ := hcs
    exact ⟨[], rfl, Nat.zero_le _, fun k s hs => by simp at hs⟩
  · simp [Value.cells] at hcs
    obtain ⟨rfl, rfl, rfl⟩ := hcs
    simp at hz
    exact ⟨ss.take len, by rw [List.length_take]; omega, by omega, strs_of_cells hcell hws⟩

/-- A '[]byte' that came in, opened. -/
theorem open_bytesArg {H : Type} {enc : TypeId × Value → H} {W : World} {a : Option Addr} {len cap fuel : Nat} {y : DataW H × List MemPlace}
    (hf : DataW.trod enc Try.prog W 0 (fun _ => true) true fuel 33 (Value.slice a len cap).cells.toList = some y) : ∃ zs : List Int, zs.length = len ∧ len ≤ maxLen ∧ Nums .u8 W a zs ∧ ∀ z ∈ zs, 0 ≤ z ∧ z ≤ 255 := by
  rcases open_ints Try.underlying33 Try.underlying5 (by kernel_rfl) hf with ⟨hcs, _⟩ | ⟨x, l, c, zs, hcs, _, hl, hm, hz, _, hcell, hwz⟩
  · simp [Value.cells] at hcs
    obtain ⟨rfl, rfl, rfl⟩ := hcs
    exact ⟨[], rfl, Nat.zero_le _, fun k s hs => by simp at hs, fun z hz => by cases hz⟩
  · simp [Value.cells] at hcs
    obtain ⟨rfl, rfl, rfl⟩ := hcs
    simp at hz
    exact ⟨zs.take len, by rw [List.length_take]; omega, by omega, nums_of_cells hcell, fun z hz => bounds_u8 (hwz z (List.mem_of_mem_take hz))⟩

end Go.Proofs.Qxb6600096a
