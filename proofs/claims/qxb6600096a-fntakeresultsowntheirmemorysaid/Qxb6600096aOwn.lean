/-
  Appending bytes to a slice that the call itself makes: two laws for the walk, at this program's []byte.
-/
import Derived.Test.Qxb6600096aSmall
import Derived.Lib.AppendStr
import Derived.Lib.Bytealg
namespace Go.Proofs.Qxb6600096a
open Go.RowKit

theorem Try.info5 : (Try.prog.info? 5).map (fun i => (i.zero, i.size, i.bytes)) = some (some (.int .u8 0), 1, 1) := by kernel_rfl

/-- The slice value v owns the bytes xs, in a block from B on. -/
def Own (B : Nat) (w : World) (v : Value) (xs : List Int) : Prop := w.ownsRow B 5 1 v xs.length (xs.map (Value.int .u8))

theorem Own.nil (B : Nat) (w : World) : Own B w (.slice none 0 0) [] := World.ownsRow_nil w B 5 1
theorem Own.alloc {B : Nat} {w : World} {v : Value} {xs : List Int} (h : Own B w v xs) (o : Obj) : Own B (w.alloc o) v xs := World.ownsRow.alloc h o
theorem Own.mono {B B' : Nat} {w : World} {v : Value} {xs : List Int} (h : Own B w v xs) (hB : B' ≤ B) : Own B' w v xs := by
  refine ⟨h.1, ?_⟩
  rcases h.2 with h2 | ⟨g, cap, cur, hv, hg, r⟩
  · exact .inl h2
  · exact .inr ⟨g, cap, cur, hv, by omega, r⟩
theorem Own.shape {B : Nat} {w : World} {v : Value} {xs : List Int} (h : Own B w v xs) : ∃ ao cap, v = .slice ao xs.length cap ∧ Nums .u8 w ao xs := by
  rcases h.2 with ⟨hv, hn⟩ | ⟨g, cap, cur, hv, hg, hh, hnc, hcm, hcs, htake⟩
  · refine ⟨none, 0, by rw [hn]; exact hv, fun i z hz => ?_⟩
    have := (List.getElem?_eq_some_iff.1 hz).1
    omega
  · refine ⟨_, cap, hv, fun i z hz => ⟨g, 0, rfl, ?_⟩⟩
    have := h.cells (g := g) (by rw [hv]; rfl) i (.int .u8 z) (by simp [hz])
    rwa [Addr.add_lit] at this
/-- As 'shape', with the block's own number. -/
theorem Own.lies {B : Nat} {w : World} {v : Value} {xs : List Int} (h : Own B w v xs) (hx : xs ≠ []) : ∃ g cap, v = .slice (some ⟨g, 0, none⟩) xs.length cap ∧ B ≤ g ∧ g < w.heap.size := by
  rcases h.2 with ⟨hv, hn⟩ | ⟨g, cap, cur, hv, hg, hh, r⟩
  · exact absurd (List.eq_nil_of_length_eq_zero hn) hx
  · exact ⟨g, cap, hv, hg, (Array.getElem?_eq_some_iff.1 hh).1⟩

/-- Below B all is as it was; and every row of cells that are no bytes stands as it stood. -/
def Kept (B : Nat) (w w' : World) : Prop := Below B w w' ∧ ∀ (k : Nat) (cs : Array Value) (t : TypeId) (fr : Nat × Nat), w.heap[k]? = some (Obj.cells cs t fr) → t ≠ 5 → w'.heap[k]? = some (Obj.cells cs t fr)

theorem Kept.refl (B : Nat) (w : World) : Kept B w w := ⟨Below.refl _ _, fun _ _ _ _ h _ => h⟩
theorem Kept.trans {B : Nat} {a b c : World} (h : Kept B a b) (k : Kept B b c) : Kept B a c := ⟨h.1.trans k.1, fun i cs t fr hi ht => k.2 i cs t fr (h.2 i cs t fr hi ht) ht⟩
theorem Kept.alloc {B : Nat} {a w : World} (h : Kept B a w) (hB : B ≤ w.heap.size) (o : Obj) : Kept B a (w.alloc o) :=
  h.trans ⟨(Below.refl _ _).alloc hB _, fun k cs t fr hk _ => by rw [Below.heap_alloc _ _ _ (Array.getElem?_eq_some_iff.1 hk).1]; exact hk⟩
theorem Kept.drew {B : Nat} {a w : World} (h : Kept B a w) : Kept B a w.drew := ⟨h.1.drew, h.2⟩
theorem Kept.of_grown {B : Nat} {w w' : World} {v : Value} {xs : List Int} (hown : Own B w v xs) (hg : w.grownBy w' v.ownBlock) (hB : B ≤ w.heap.size) : Kept B w w' := by
  refine ⟨(Below.refl _ _).grown hg hB fun k hk => (hown.lt k hk).1, fun k cs t fr hk ht => ?_⟩
  rw [hg.block k (Array.getElem?_eq_some_iff.1 hk).1, hk]
  intro e
  rcases hown.2 with ⟨hv, _⟩ | ⟨g, cap, cur, hv, _, hh, _⟩
  · rw [hv] at e; cases e
  · rw [hv] at e
    simp [Value.ownBlock] at e
    subst e
    rw [hh] at hk
    simp at hk
    exact ht hk.2.1.symm

section
variable {ops : Array Oper} {rest : List Oper} {o : Oper} {a : Act} {Q : Exit → Act → World → Prop}

/-- 'append(dst, c)': one byte. -/
theorem wpList_app1 (hgd : o.guard = none) (s x : Operand) (ho : o.op = .call { callee := .builtin .append, args := #[s, x], argTypes := #[33, 33] })
    (B : Nat) (W : World) (c : Int) (v : Value) (xs : List Int) (hs : a.eval s = v) (H : Nat) (hx : a.eval x = .slice (some ⟨H, 0, none⟩) 1 1) (hH : W.heap.size = H) (hown : Own B W v xs) (hB : B ≤ W.heap.size) (hlen : xs.length + 1 ≤ 1099511627776)
    (h : ∀ v' w', Own B w' v' (xs ++ [c]) → Kept B W w' → wpList Try.prog ops Q rest (a.put o.dst v') w') : wpList Try.prog ops Q (o :: rest) a (W.alloc (.cells #[.int .u8 c] 5)) := by
  obtain ⟨i, hi, hz0, hz1, hz2⟩ := info_parts Try.info5
  subst hH
  refine wpList_append_own _ hgd s x 33 ho B 5 i (.int .u8 0) 1 1 Try.underlying33 hi hz0 hz1 hz2 rfl (by decide) v _ _ hs (hown.alloc _) ⟨W.heap.size, 0, none⟩ 1 1 [.int .u8 c] hx rfl (cell_one_new _ _ _) (by intro u hu; simp at hu; subst hu; rfl)
    (by unfold maxLen; omega) (by omega) (by simp; omega) fun v' w' h1 h2 _ => ?_
  have hsz : B ≤ (W.alloc (.cells #[.int .u8 c] 5)).heap.size := by simp; omega
  exact h v' w' (by unfold Own; simpa using h1) (((Kept.refl B W).alloc hB _).trans (Kept.of_grown (hown.alloc _) h2 hsz))

/-- 'append(dst, s...)': a string's bytes. -/
theorem wpList_appS (hgd : o.guard = none) (s x : Operand) (ho : o.op = .call { callee := .builtin .append, args := #[s, x], argTypes := #[33, 9] })
    (B : Nat) (W : World) (t : ByteArray) (v : Value) (xs : List Int) (hs : a.eval s = v) (hx : a.eval x = .string t) (hown : Own B W v xs) (hB : B ≤ W.heap.size) (hlen : xs.length + t.size ≤ 1099511627776)
    (h : ∀ v' w', Own B w' v' (xs ++ bts t) → Kept B W w' → wpList Try.prog ops Q rest (a.put o.dst v') w') : wpList Try.prog ops Q (o :: rest) a W := by
  obtain ⟨i, hi, hz0, hz1, hz2⟩ := info_parts Try.info5
  refine Lib.wpList_append_own_string W hgd s x 33 9 ho B 5 i Try.underlying33 Try.underlying9 hi hz0 hz1 hz2 v _ _ hs hown t hx (by unfold maxLen; omega) (by omega) hB fun v' w' h1 h2 _ => ?_
  have e : Lib.strCells t = (bts t).map (Value.int .u8) := by simp [Lib.strCells, bts]
  rw [e] at h1
  exact h v' w' (by unfold Own; simpa [bts_length] using h1) (Kept.of_grown hown h2 hB)
end

/-! ### strings.IndexByte at the three escaped bytes -/
def idxE (c : Int) : Int := Lib.indexByte [92, 124, 38] c.toNat.toUInt8
theorem idxE_yes {b : UInt8} (h : escB (b.toNat : Int) = true) : 0 ≤ idxE b.toNat := by
  simp [escB] at h
  have hb : b = 92 ∨ b = 124 ∨ b = 38 := by
    rcases h with (h | h) | h
    · exact .inl (UInt8.toNat_inj.1 (by show b.toNat = 92; omega))
    · exact .inr (.inl (UInt8.toNat_inj.1 (by show b.toNat = 124; omega)))
    · exact .inr (.inr (UInt8.toNat_inj.1 (by show b.toNat = 38; omega)))
  rcases hb with rfl | rfl | rfl <;> decide
theorem idxE_no {b : UInt8} (h : escB (b.toNat : Int) = false) : idxE b.toNat = -1 := by
  simp [escB] at h
  have h1 : ¬ (92 = b) := fun e => h.1.1 (by subst e; rfl)
  have h2 : ¬ (124 = b) := fun e => h.1.2 (by subst e; rfl)
  have h3 : ¬ (38 = b) := fun e => h.2 (by subst e; rfl)
  simp [idxE, Lib.indexByte, h1, h2, h3]

set_option maxHeartbeats 400000 in
theorem idx_any (c : Int) (w : World) : Calls Try.prog 40 #[.string ⟨#[92, 124, 38]⟩, .int .u8 c] w fun e w' => e = .returned (.int .i64 (idxE c)) ∧ w' = w := by
  go_enter Try.func40, Try.ntmps40
  go_wp2
  rw [run_callFunc_extern Try.func48 (by kernel_rfl) (by kernel_rfl) (by kernel_rfl) (e := Extern.BytealgIndexByte.indexByte) (by kernel_rfl), Lib.run_indexByteString]
  simp only [Result.andThen]
  rw [Oper.upon_value]
  go_wp2
  go_ret
  exact ⟨rfl, rfl⟩
end Go.Proofs.Qxb6600096a
