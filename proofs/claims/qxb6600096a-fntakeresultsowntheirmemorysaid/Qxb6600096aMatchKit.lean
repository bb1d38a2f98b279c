/-
  What zzTakeMatches' walk wants.
-/
import Derived.Test.Qxb6600096aTakeKit
import Derived.Test.Qxb6600096aSplits
import Derived.Test.Qxb6600096aSame
namespace Go.Proofs.Qxb6600096a
open Go.RowKit

theorem txt_pos (l : List Alt) (h : l ≠ []) : 0 < (txt l).length := by
  cases l with
  | nil => exact absurd rfl h
  | cons a l =>
    have e : txt (a :: l) = altT a ++ pre l := by simp [txt, pre]
    rw [e, List.length_append]
    simp only [altT, List.length_append, List.length_cons]
    omega

/-- The alternatives of one restriction, as they lie. -/
theorem AltRow.seg {w : World} {A lo s : Nat} {l : List Alt} (h : AltRow w A l l.length) (hz : ∀ x ∈ l, x.f.size ≤ maxLen ∧ x.v.size ≤ maxLen) : AltsAt w (some ⟨A, lo * 3, none⟩) ((l.take s).drop lo) := by
  intro k x hx
  have hx2 : l[lo + k]? = some x := by
    rw [List.getElem?_drop, List.getElem?_take] at hx
    split at hx
    · exact hx
    · cases hx
  obtain ⟨F, hr, hF⟩ := h
  have hi := (List.getElem?_eq_some_iff.1 hx2).1
  obtain ⟨h0, h1, h2⟩ := hF (lo + k) x hi hx2
  obtain ⟨z0, z1⟩ := hz x (List.mem_of_getElem? hx2)
  have e : (lo + k) * 3 = lo * 3 + k * 3 := Nat.add_mul _ _ _
  rw [e] at h0 h1 h2
  exact ⟨A, lo * 3, rfl, by rw [hr.cell (by omega), h0], by rw [hr.cell (by omega), h1], by rw [hr.cell (by omega), h2], z0, z1⟩

theorem pre_seg_len (l : List Alt) (lo s : Nat) : (pre ((l.take s).drop lo)).length ≤ (pre l).length := by
  have h1 := pre_take_len l s
  have e : pre (l.take s) = pre ((l.take s).take lo) ++ pre ((l.take s).drop lo) := by rw [← pre_append, List.take_append_drop]
  have h2 := congrArg List.length e
  rw [List.length_append] at h2
  omega

/-- The text of one restriction out of the row. -/
theorem textSeg_any (A lo s b e : Nat) (l : List Alt) (T : List Int) (w : World) (hl : l.length ≤ 65536) (hpre : (pre l).length ≤ 1000000000) (hs : s ≤ l.length) (har : AltRow w A l l.length) (hz : ∀ x ∈ l, x.f.size ≤ maxLen ∧ x.v.size ≤ maxLen)
    (h5 : (T.drop b).take (e - b) = txt ((l.take s).drop lo)) (he : e ≤ T.length) :
    Calls Try.prog 17 #[.agg #[.slice (some ⟨A, lo * 3, none⟩) (s - lo) (s - lo)], .slice none 0 0] w fun r w' => (∃ ao cap, r = .returned (.slice ao (e - b) cap) ∧ Nums .u8 w' ao ((T.drop b).take (e - b))) ∧ Below w.heap.size w w' := by
  have hlen : ((l.take s).drop lo).length = s - lo := by rw [List.length_drop, List.length_take]; omega
  have h := zzText_any (some ⟨A, lo * 3, none⟩) (s - lo) ((l.take s).drop lo) w (by omega) (har.seg hz) (by have := pre_seg_len l lo s; omega)
  rw [hlen] at h
  refine h.mono ?_
  rintro r w' ⟨⟨v, rfl, ho⟩, hb⟩
  obtain ⟨ao, cap, rfl, hn⟩ := ho.shape
  rw [← h5] at hn ⊢
  have hl2 : ((T.drop b).take (e - b)).length = e - b := by rw [List.length_take, List.length_drop]; omega
  rw [hl2]
  exact ⟨⟨ao, cap, rfl, hn⟩, hb⟩

theorem sameBytes_n (a b : Option Addr) (xs : List Int) (n cap cap' : Nat) (w : World) (hn : xs.length = n) (hl : n ≤ 1099511627776) (ha : Nums .u8 w a xs) (hb : Nums .u8 w b xs) :
    Calls Try.prog 23 #[.slice a n cap, .slice b n cap'] w fun e w' => e = .returned (.bool true) ∧ ∃ m, w' = w.drewN m := by
  subst hn; exact sameBytes_any a b xs cap cap' w hl ha hb

theorem Nums.sub {w : World} {b off : Nat} {T : List Int} (h : Nums .u8 w (some ⟨b, off, none⟩) T) (i n : Nat) : Nums .u8 w (some ⟨b, off + i, none⟩) ((T.drop i).take n) := by
  intro k z hz
  rw [List.getElem?_take] at hz
  split at hz
  · rw [List.getElem?_drop] at hz
    obtain ⟨b', off', e, hc⟩ := h _ z hz
    obtain ⟨rfl, rfl⟩ : b = b' ∧ off = off' := by simpa using e
    exact ⟨b, off + i, rfl, by rw [Nat.add_assoc]; exact hc⟩
  · cases hz

theorem below_undrew {B : Nat} {w w' : World} (h : Below B w.drew w') : Below B w w' := ⟨h.os, h.tape, h.output, h.size, h.block⟩

theorem wrapSum (n : Int) (h0 : 0 ≤ n) (h1 : n ≤ 1099511627776) : IntKind.i64.wrap n = n := by
  rw [IntKind.wrap_i64]; omega

theorem RsRow.cell {w : World} {G A g s : Nat} {S : List Nat} (h : RsRow w G A S S.length) (hs : S[g]? = some s) : w.cell? ⟨G, g, none⟩ = some (.slice (some ⟨A, loOf S g * 3, none⟩) (s - loOf S g) (s - loOf S g)) := by
  obtain ⟨F, hr, hF⟩ := h
  have hg := (List.getElem?_eq_some_iff.1 hs).1
  rw [hr.cell hg, hF g s hg hs]
theorem AltRow.cells {w : World} {A i : Nat} {l : List Alt} {x : Alt} (h : AltRow w A l l.length) (hx : l[i]? = some x) :
    w.cell? ⟨A, i * 3, none⟩ = some (.string x.f) ∧ w.cell? ⟨A, i * 3 + 1, none⟩ = some (.int .u8 x.c) ∧ w.cell? ⟨A, i * 3 + 2, none⟩ = some (.string x.v) := by
  obtain ⟨F, hr, hF⟩ := h
  have hi := (List.getElem?_eq_some_iff.1 hx).1
  obtain ⟨h0, h1, h2⟩ := hF i x hi hx
  exact ⟨by rw [hr.cell (by omega), h0], by rw [hr.cell (by omega), h1], by rw [hr.cell (by omega), h2]⟩

end Go.Proofs.Qxb6600096a
