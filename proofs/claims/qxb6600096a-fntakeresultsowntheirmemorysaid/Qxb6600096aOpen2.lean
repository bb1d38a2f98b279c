/-
  A '[]bool' that came in, opened.
-/
import Derived.Test.Qxb6600096aOpen
import Derived.Test.Qxb6600096aLayKit
import Derived.Deep.Grids
namespace Go.Proofs.Qxb6600096a
open Go.ChangeShapes Go.WideShapes Go.ChangeAt Go.RowKit

theorem open_boolsArg {H : Type} {enc : TypeId × Value → H} {W : World} {a : Option Addr} {len cap fuel : Nat} {y : DataW H × List MemPlace}
    (hf : DataW.trod enc Try.prog W 0 (fun _ => true) true fuel 46 (Value.slice a len cap).cells.toList = some y) : ∃ bs : List Bool, bs.length = len ∧ len ≤ maxLen ∧ Bools W a bs := by
  rcases Go.Deep.open_bools Try.underlying46 Try.underlying4 (by kernel_rfl) hf with ⟨hcs, _⟩ | ⟨x, l, c, B, hcs, _, hl, hm, _, hcell⟩
  · simp [Value.cells] at hcs
    obtain ⟨rfl, rfl, rfl⟩ := hcs
    exact ⟨[], rfl, Nat.zero_le _, fun k s hs => by simp at hs⟩
  · simp [Value.cells] at hcs
    obtain ⟨rfl, rfl, rfl⟩ := hcs
    refine ⟨(List.range len).map B, by simp, by omega, ?_⟩
    intro k z hz
    have hk : k < len := by
      have := (List.getElem?_eq_some_iff.1 hz).1
      simpa using this
    have e : B k = z := by
      rw [List.getElem?_map, List.getElem?_range hk] at hz
      simpa using hz
    obtain ⟨b, off, spot⟩ := x
    have hspot : spot = none := by simpa [Addr.add] using World.cell?_spot (hcell 0 (by omega))
    subst hspot
    refine ⟨b, off, rfl, ?_⟩
    rw [← add_plain, hcell k (by omega), e]

end Go.Proofs.Qxb6600096a
