/-
  Appending bytes to a slice that the call itself makes; its turn into a string.
-/
import Derived.Test.Qxb6601275aProg
import Derived.Test.Qxb6601275aPlain
import Derived.WalkKit
import Derived.WalkSpells
import Derived.WalkLawsBesides
import Derived.Lib.AppendStr
import Derived.Laws.BytesArg
namespace Go.Proofs.Qxb6601275a
open Go.RowKit

theorem hide {p : Prop} (h : p) : Hid p := h
theorem ret_bool {a b : Bool} (h : a = b) : Ending.returned (.bool a) = .returned (.bool b) := by rw [h]
theorem Try.info5 : (Try.prog.info? 5).map (fun i => (i.zero, i.size, i.bytes)) = some (some (.int .u8 0), 1, 1) := by kernel_rfl

/-- The slice value v owns the bytes xs, in a block from B on. -/
def Own (B : Nat) (w : World) (v : Value) (xs : List Int) : Prop := w.ownsRow B 5 1 v xs.length (xs.map (Value.int .u8))
theorem Own.alloc {B : Nat} {w : World} {v : Value} {xs : List Int} (h : Own B w v xs) (o : Obj) : Own B (w.alloc o) v xs := World.ownsRow.alloc h o

section
variable {ops : Array Oper} {rest : List Oper} {o : Oper} {a : Act} {Q : Exit → Act → World → Prop}

/-- 'append(dst, c)': one byte. -/
theorem wpList_app1 (hgd : o.guard = none) (s x : Operand) (ho : o.op = .call { callee := .builtin .append, args := #[s, x], argTypes := #[39, 39] })
    (B : Nat) (W : World) (c : Int) (v : Value) (xs : List Int) (hs : a.eval s = v) (H : Nat) (hx : a.eval x = .slice (some ⟨H, 0, none⟩) 1 1) (hH : W.heap.size = H) (hown : Own B W v xs) (hB : B ≤ W.heap.size) (hlen : xs.length + 1 ≤ 1099511627776)
    (h : ∀ v' w', Own B w' v' (xs ++ [c]) → Below B W w' → wpList Try.prog ops Q rest (a.put o.dst v') w') : wpList Try.prog ops Q (o :: rest) a (W.alloc (.cells #[.int .u8 c] 5)) := by
  obtain ⟨i, hi, hz0, hz1, hz2⟩ := info_parts Try.info5
  subst hH
  refine wpList_append_own _ hgd s x 39 ho B 5 i (.int .u8 0) 1 1 Try.underlying39 hi hz0 hz1 hz2 rfl (by decide) v _ _ hs (hown.alloc _) ⟨W.heap.size, 0, none⟩ 1 1 [.int .u8 c] hx rfl (cell_one_new _ _ _) (by intro u hu; simp at hu; subst hu; rfl)
    (by unfold maxLen; omega) (by omega) (by simp; omega) fun v' w' h1 h2 _ => ?_
  have hsz : B ≤ (W.alloc (.cells #[.int .u8 c] 5)).heap.size := by simp; omega
  exact h v' w' (by unfold Own; simpa using h1) (((Below.refl B W).alloc hB _).grown h2 hsz fun k hk => (World.ownsRow.lt hown k hk).1)

/-- 'append(dst, s...)': a string's bytes. -/
theorem wpList_appS (hgd : o.guard = none) (s x : Operand) (ho : o.op = .call { callee := .builtin .append, args := #[s, x], argTypes := #[39, 9] })
    (B : Nat) (W : World) (t : ByteArray) (v : Value) (xs : List Int) (hs : a.eval s = v) (hx : a.eval x = .string t) (hown : Own B W v xs) (hB : B ≤ W.heap.size) (hlen : xs.length + t.size ≤ 1099511627776)
    (h : ∀ v' w', Own B w' v' (xs ++ bts t) → Below B W w' → wpList Try.prog ops Q rest (a.put o.dst v') w') : wpList Try.prog ops Q (o :: rest) a W := by
  obtain ⟨i, hi, hz0, hz1, hz2⟩ := info_parts Try.info5
  refine Lib.wpList_append_own_string W hgd s x 39 9 ho B 5 i Try.underlying39 Try.underlying9 hi hz0 hz1 hz2 v _ _ hs hown t hx (by unfold maxLen; omega) (by omega) hB fun v' w' h1 h2 _ => ?_
  have e : Lib.strCells t = (bts t).map (Value.int .u8) := by simp [Lib.strCells, bts]
  rw [e] at h1
  exact h v' w' (by unfold Own; simpa [bts_length] using h1) ((Below.refl B W).grown h2 hB fun k hk => (World.ownsRow.lt hown k hk).1)
end

def BytesL (l : List Int) : Prop := ∀ z ∈ l, 0 ≤ z ∧ z ≤ 255
theorem bytes_bts (s : ByteArray) : BytesL (bts s) := fun z hz => by
  obtain ⟨b, _, rfl⟩ := List.mem_map.1 hz
  have := b.toNat_lt
  omega
theorem BytesL.append {a b : List Int} (ha : BytesL a) (hb : BytesL b) : BytesL (a ++ b) := fun z hz => by
  rcases List.mem_append.1 hz with h | h
  · exact ha z h
  · exact hb z h
theorem BytesL.cons {c : Int} {b : List Int} (h0 : 0 ≤ c ∧ c ≤ 255) (hb : BytesL b) : BytesL (c :: b) := fun z hz => by
  rcases List.mem_cons.1 hz with rfl | h
  · exact h0
  · exact hb z h
theorem BytesL.nil : BytesL [] := fun z hz => by cases hz
theorem BytesL.seg {L : List Int} (h : BytesL L) (a b : Nat) : BytesL (seg L a b) := fun z hz => h z (List.mem_of_mem_take (List.mem_of_mem_drop hz))

theorem strOfNums_bts {T : List Int} (h : BytesL T) : bts (strOfNums T) = T := by
  have e : bts (strOfNums T) = T.map fun n => ((UInt8.ofNat n.toNat).toNat : Int) := by
    simp [bts, strOfNums]
  rw [e]
  conv => rhs; rw [← List.map_id T]
  apply List.map_congr_left
  intro z hz
  obtain ⟨h0, h1⟩ := h z hz
  have : z.toNat < 256 := by omega
  simp only [id]
  have e2 : (UInt8.ofNat z.toNat).toNat = z.toNat := by
    rw [UInt8.toNat_ofNat']
    omega
  rw [e2]
  omega

/-- 'string(out)', out a row of bytes of the call's own. -/
theorem Own.conv {B : Nat} {w : World} {v : Value} {T : List Int} (h : Own B w v T) (hb : BytesL T) :
    ∃ ao cap tx, v = .slice ao T.length cap ∧ (convert 39 9 (.slice ao T.length cap)).run Try.prog w = .ok (.string tx) w ∧ bts tx = T := by
  rcases h.2 with ⟨hv, hn⟩ | ⟨g, cap, cur, hv, hg, hh, hnc, hcm, hcs, htake⟩
  · have hT : T = [] := List.eq_nil_of_length_eq_zero hn
    subst hT
    exact ⟨none, 0, ByteArray.empty, hv, run_convert_bytes_nil w 39 5 Try.underlying39 Try.underlying5 0 0 9 Try.underlying9, rfl⟩
  · refine ⟨some ⟨g, 0, none⟩, cap, strOfNums T, hv, run_convert_bytes_arg w 39 5 Try.underlying39 Try.underlying5 g 0 T.length cap T rfl ?_ 9 Try.underlying9, strOfNums_bts hb⟩
    intro i hi
    have hc := h.cells (g := g) (by rw [hv]; rfl) i (.int .u8 T[i]) (by simp [hi])
    rw [Addr.add_lit] at hc
    rw [hc, List.getD_eq_getElem?_getD, List.getElem?_eq_getElem hi]
    rfl
end Go.Proofs.Qxb6601275a
