/-
  Several rows that one call builds at once: what each append leaves of the others.
-/
import Derived.Test.Qxb6600096aText
import Derived.Maps.AppendAt
namespace Go.Proofs.Qxb6600096a
open Go.RowKit

theorem Try.info3 : (Try.prog.info? 3).map (fun i => (i.zero, i.size, i.bytes)) = some (some (.int .i64 0), 1, 8) := by kernel_rfl

/-- Below B all is as it was; every row whose cells are not of type t stands as it stood. -/
def KeptT (t : TypeId) (B : Nat) (w w' : World) : Prop :=
  Below B w w' ∧ ∀ (k : Nat) (cs : Array Value) (t' : TypeId) (fr : Nat × Nat), w.heap[k]? = some (Obj.cells cs t' fr) → t' ≠ t → w'.heap[k]? = some (Obj.cells cs t' fr)

theorem Kept.toT {B : Nat} {w w' : World} (h : Kept B w w') : KeptT 5 B w w' := h
theorem KeptT.ownsRow {t e : TypeId} {B B' size n : Nat} {w w' : World} {v : Value} {xs : List Value} (h : KeptT t B w w') (ho : w.ownsRow B' e size v n xs) (hne : e ≠ t) : w'.ownsRow B' e size v n xs := by
  refine ⟨ho.1, ?_⟩
  rcases ho.2 with h2 | ⟨g, cap, cur, hv, hg, hh, r⟩
  · exact .inl h2
  · exact .inr ⟨g, cap, cur, hv, hg, h.2 g cur e (0, 0) hh hne, r⟩
theorem KeptT.rowIs {t e : TypeId} {B b n : Nat} {f : Nat → Value} {w w' : World} (h : KeptT t B w w') (hr : w.rowIs b e n f) (hne : e ≠ t) : w'.rowIs b e n f := by
  obtain ⟨c, hb, hn, hc⟩ := hr
  exact ⟨c, h.2 b c e (0, 0) hb hne, hn, hc⟩
theorem ownsRow_below {e : TypeId} {B size n : Nat} {w w' : World} {v : Value} {xs : List Value} (ho : w.ownsRow B e size v n xs) (h : Below w.heap.size w w') : w'.ownsRow B e size v n xs := by
  refine ⟨ho.1, ?_⟩
  rcases ho.2 with h2 | ⟨g, cap, cur, hv, hg, hh, r⟩
  · exact .inl h2
  · exact .inr ⟨g, cap, cur, hv, hg, by rw [h.block g (Array.getElem?_eq_some_iff.1 hh).1]; exact hh, r⟩
theorem rowIs_below {e : TypeId} {b n : Nat} {f : Nat → Value} {w w' : World} (hr : w.rowIs b e n f) (h : Below w.heap.size w w') : w'.rowIs b e n f := hr.of_block (h.block b hr.lt)

/-- The slice value v owns the numbers xs. -/
def OwnI (B : Nat) (w : World) (v : Value) (xs : List Nat) : Prop := w.ownsRow B 3 1 v xs.length (xs.map fun n : Nat => Value.int .i64 (n : Int))
theorem OwnI.nil (B : Nat) (w : World) : OwnI B w (.slice none 0 0) [] := World.ownsRow_nil w B 3 1

/-- Two slices in two blocks. -/
def Apart (v u : Value) : Prop := ∀ b, v.ownBlock = some b → u.ownBlock = some b → False
theorem Apart.symm {v u : Value} (h : Apart v u) : Apart u v := fun b h1 h2 => h b h2 h1
theorem Apart.nil (u : Value) : Apart (.slice none 0 0) u := fun b h1 => by cases h1

section
variable {ops : Array Oper} {rest : List Oper} {o : Oper} {a : Act} {Q : Exit → Act → World → Prop}

/-- 'append(ns, n)': one number, onto one of two rows of numbers. -/
theorem wpList_appI (hgd : o.guard = none) (s x : Operand) (ho : o.op = .call { callee := .builtin .append, args := #[s, x], argTypes := #[49, 49] })
    (B : Nat) (W : World) (c : Nat) (v : Value) (xs : List Nat) (hs : a.eval s = v) (H : Nat) (hx : a.eval x = .slice (some ⟨H, 0, none⟩) 1 1) (hH : W.heap.size = H) (hown : OwnI B W v xs) (hB : B ≤ W.heap.size) (hlen : xs.length + 1 ≤ 1099511627776)
    (u : Value) (ys : List Nat) (hu : OwnI B W u ys) (hd : Apart v u)
    (h : ∀ v' w', OwnI B w' v' (xs ++ [c]) → OwnI B w' u ys → Apart v' u → KeptT 3 B W w' → wpList Try.prog ops Q rest (a.put o.dst v') w') : wpList Try.prog ops Q (o :: rest) a (W.alloc (.cells #[.int .i64 (c : Int)] 3)) := by
  obtain ⟨i, hi, hz0, hz1, hz2⟩ := info_parts Try.info3
  subst hH
  refine wpList_append_own_at _ hgd s x 49 ho B 3 i (.int .i64 0) 1 8 Try.underlying49 hi hz0 hz1 hz2 rfl (by decide) v _ _ hs (hown.alloc _) ⟨W.heap.size, 0, none⟩ 1 1 [.int .i64 (c : Int)] hx rfl (cell_one_new _ _ _) (by intro u hu; simp at hu; subst hu; rfl)
    (by unfold maxLen; omega) (by omega) (by simp; omega) fun v' w' h1 h2 _ h4 => ?_
  have hsz : B ≤ (W.alloc (.cells #[.int .i64 (c : Int)] 3)).heap.size := by simp; omega
  have hlt := World.ownsRow.lt (hown.alloc (.cells #[.int .i64 (c : Int)] 3))
  have hltu := World.ownsRow.lt hu
  refine h v' w' (by unfold OwnI; simpa using h1) ?_ ?_ ⟨((Below.refl B W).alloc hB _).trans ((Below.refl _ _).grown h2 hsz fun k hk => (hlt k hk).1), ?_⟩
  · refine World.ownsRow.kept (hu.alloc _) h2 ?_
    cases hub : u.ownBlock with
    | none => exact .inl rfl
    | some b => exact .inr fun e => hd b e.symm hub
  · intro b hb1 hb2
    rcases h4 with h4 | h4
    · exact hd b (h4 ▸ hb1) hb2
    · rw [h4] at hb1
      have e := Option.some.inj hb1
      have hl := (hltu b hb2).2
      simp at e
      omega
  · intro k cs t' fr hk ht
    have hk0 : k < W.heap.size := (Array.getElem?_eq_some_iff.1 hk).1
    have hk1 : (W.alloc (.cells #[.int .i64 (c : Int)] 3)).heap[k]? = some (Obj.cells cs t' fr) := by rw [Below.heap_alloc _ _ _ hk0]; exact hk
    rw [h2.block k (Array.getElem?_eq_some_iff.1 hk1).1, hk1]
    intro e
    rcases hown.2 with ⟨hv, _⟩ | ⟨g, cap, cur, hv, _, hh, _⟩
    · rw [hv] at e; cases e
    · rw [hv] at e
      simp [Value.ownBlock] at e
      subst e
      rw [hh] at hk
      simp at hk
      exact ht hk.2.1.symm

/-- 'append(text, piece...)': bytes of another row. -/
theorem wpList_appP (hgd : o.guard = none) (s x : Operand) (ho : o.op = .call { callee := .builtin .append, args := #[s, x], argTypes := #[33, 33] })
    (B : Nat) (W : World) (v : Value) (xs ys : List Int) (ao : Option Addr) (cap : Nat) (hs : a.eval s = v) (hx : a.eval x = .slice ao ys.length cap) (hown : Own B W v xs) (hys : Nums .u8 W ao ys) (hne : ys ≠ []) (hB : B ≤ W.heap.size) (hlen : xs.length + ys.length ≤ 1099511627776)
    (h : ∀ v' w', Own B w' v' (xs ++ ys) → Kept B W w' → wpList Try.prog ops Q rest (a.put o.dst v') w') : wpList Try.prog ops Q (o :: rest) a W := by
  obtain ⟨i, hi, hz0, hz1, hz2⟩ := info_parts Try.info5
  obtain ⟨y, hy⟩ : ∃ y, ys[0]? = some y := ⟨_, List.getElem?_eq_getElem (List.length_pos_iff.2 hne)⟩
  obtain ⟨b, off, rfl, _⟩ := hys 0 y hy
  refine wpList_append_own _ hgd s x 33 ho B 5 i (.int .u8 0) 1 1 Try.underlying33 hi hz0 hz1 hz2 rfl (by decide) v _ _ hs hown ⟨b, off, none⟩ ys.length cap (ys.map (Value.int .u8)) hx (by simp) ?_ (ints_oneCell _ _)
    (by unfold maxLen; omega) (by omega) hB fun v' w' h1 h2 _ => ?_
  · intro j u hj
    rw [List.getElem?_map] at hj
    obtain ⟨z, hz, rfl⟩ := Option.map_eq_some_iff.1 hj
    obtain ⟨b', off', e, hc⟩ := hys j z hz
    obtain ⟨rfl, rfl⟩ : b = b' ∧ off = off' := by simpa using e
    rw [Addr.add_lit]; exact hc
  · exact h v' w' (by unfold Own; simpa using h1) (Kept.of_grown hown h2 hB)
end
end Go.Proofs.Qxb6600096a
