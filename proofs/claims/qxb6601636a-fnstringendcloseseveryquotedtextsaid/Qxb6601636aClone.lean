/-
  jf1Clone, and appending bytes to a slice of the call's own.
-/
import Derived.Test.Qxb6601636aEnd
import Derived.Laws.CopyOwn
import Derived.Deep.OwnRows
import Derived.Laws.AppendOwnNone
namespace Go.Proofs.Qxb6601636a
open Go.RowKit

theorem Try.info5 : (Try.prog.info? 5).map (fun i => (i.zero, i.size, i.bytes)) = some (some (.int .u8 0), 1, 1) := by kernel_rfl

/-- A slice of bytes lies there. -/
def Nums (w : World) (a : Option Addr) (zs : List Int) : Prop :=
  ∀ (i : Nat) (z : Int), zs[i]? = some z → ∃ b off, a = some ⟨b, off, none⟩ ∧ w.cell? ⟨b, off + i, none⟩ = some (.int .u8 z)
theorem Nums.below {w w' : World} {a : Option Addr} {zs : List Int} (h : Nums w a zs) (hb : Below w.heap.size w w') : Nums w' a zs := by
  intro i z hz
  obtain ⟨b, off, e, hc⟩ := h i z hz
  exact ⟨b, off, e, (hb.cell (World.block_lt_of_cell? _ _ hc)).trans hc⟩

def RetArr (w : World) (xs : List Int) (e : Ending) (w' : World) : Prop := ∃ a cap, e = .returned (.slice a xs.length cap) ∧ Nums w' a xs ∧ Below w.heap.size w w' ∧ (a = none → cap = 0)

theorem eql_nil (w : World) (x : Addr) (n c : Nat) : (binOp .eql 22 (.slice (some x) n c) (.slice none 0 0)).run Try.prog w = .ok (.bool false) w := by
  have h := Lib.run_eql_slice_nil (P := Try.prog) w 22 5 (some x) n c 0 0 Try.underlying22
  simpa using h

set_option maxHeartbeats 400000 in
theorem clone_any (a : Option Addr) (xs : List Int) (cap : Nat) (w : World) (hl : xs.length ≤ 1048576) (hN : Nums w a xs) (hnil : a = none → xs = []) :
    Calls Try.prog 11 #[.slice a xs.length cap] w fun e w' => RetArr w xs e w' := by
  cases a with
  | none =>
    have := hnil rfl
    subst this
    have h := fun w => Lib.run_eql_slice_nil (P := Try.prog) w 22 5 none 0 cap 0 0 Try.underlying22
    go_enter Try.func11, Try.ntmps11
    go_wp2
    go_ret
    exact ⟨none, 0, rfl, fun i z hz => by simp at hz, Below.refl _ _, fun _ => rfl⟩
  | some x =>
    have hq := fun w => eql_nil w x xs.length cap
    have hmk := run_make_row' (P := Try.prog) 22 5 (.int .u8 0) 1 Try.underlying22 Try.info5 rfl .i64 .i64 xs.length (by omega) (by omega)
    go_enter Try.func11, Try.ntmps11
    go_wp2_with (refine wpList_copy_splice rfl (.tmp 9) (.tmp 10) 22 22 rfl 5 Try.underlying22 (by kernel_rfl) _ _ _ _ _ _ rfl rfl w.heap.size 0 (madeCells #[.int .u8 0] xs.length).toList 5 ?h1 (xs.map (Value.int .u8)) ?h2 ?h3 ?h4 (ints_oneCell _ _) w.heap.size w ?h5 (Nat.le_refl _) ?_)
    case h1 => simpa using heap_alloc_new w (.cells (madeCells #[.int .u8 0] xs.length) 5)
    case h2 => simp
    case h3 =>
      intro hpos j z hz
      obtain ⟨b, off, e, hc⟩ := hN j z hz
      obtain rfl := Option.some.inj e
      rw [Addr.add_lit]
      exact (((Below.refl w.heap.size w).alloc (Nat.le_refl _) _).cell (World.block_lt_of_cell? _ _ hc)).trans hc
    case h4 => simp [size_madeCells]
    case h5 => exact (Below.refl _ _).alloc (Nat.le_refl _) _
    intro w2 hg hb
    go_wp2
    go_ret
    refine ⟨some ⟨w.heap.size, 0, none⟩, _, rfl, ?_, hb, fun h => by cases h⟩
    intro i z hz
    refine ⟨w.heap.size, 0, rfl, ?_⟩
    rw [Nat.zero_add, cell_of_row _ _ i _ 5 (0, 0) hg.out]
    simp only [splice, List.take_zero, List.nil_append, Nat.zero_add, List.getElem?_toArray]
    rw [List.getElem?_append_left (by have := (List.getElem?_eq_some_iff.1 hz).1; simpa using this), List.getElem?_map, hz]
    rfl
end Go.Proofs.Qxb6601636a
