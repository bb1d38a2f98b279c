/-
  normalizeName: what its callees answer; the state of its loop.
-/
import Derived.Test.Qxb6601275aZz
import Derived.Test.Qxb6601275aShelf
import Derived.Lib.IndexLaws
namespace Go.Proofs.Qxb6601275a
open Go.RowKit

theorem beqI (x y : UInt8) : (x == y) = ((x.toNat : Int) == (y.toNat : Int)) := by
  by_cases h : x = y
  · subst h; simp
  · have : ¬ (x.toNat : Int) = y.toNat := fun e => h (UInt8.toNat_inj.1 (Int.ofNat.inj e))
    rw [beq_eq_false_iff_ne.2 h, beq_eq_false_iff_ne.2 this]
theorem prefix_pair (t : ByteArray) : Lib.hasPrefix t.data.toList (⟨#[46, 47]⟩ : ByteArray).data.toList = pairB (bts t) 0 := by
  unfold Lib.hasPrefix pairB bts
  generalize t.data.toList = l
  match l with
  | [] => rfl
  | [x] => simp [List.isPrefixOf]
  | x :: y :: r =>
    show ((46 : UInt8) == x && ((47 : UInt8) == y && true)) = _
    rw [beqI 46 x, beqI 47 y]
    simp
    rw [Bool.beq_comm (a := (46 : Int)), Bool.beq_comm (a := (47 : Int))]
theorem prefix_slash (t : ByteArray) : Lib.hasPrefix t.data.toList (⟨#[47]⟩ : ByteArray).data.toList = slashB (bts t) 0 := by
  unfold Lib.hasPrefix slashB bts
  generalize t.data.toList = l
  match l with
  | [] => rfl
  | x :: r =>
    show ((47 : UInt8) == x && true) = _
    rw [beqI 47 x]
    simp
    rw [Bool.beq_comm (a := (47 : Int))]

theorem has_pair (t : ByteArray) (w : World) : Calls Try.prog 28 #[.string t, .string ⟨#[46, 47]⟩] w fun e w' => e = .returned (.bool (pairB (bts t) 0)) ∧ w' = w := by
  have := Try.strings_HasPrefix t ⟨#[46, 47]⟩ w
  rwa [prefix_pair] at this
theorem has_slash (t : ByteArray) (w : World) : Calls Try.prog 28 #[.string t, .string ⟨#[47]⟩] w fun e w' => e = .returned (.bool (slashB (bts t) 0)) ∧ w' = w := by
  have := Try.strings_HasPrefix t ⟨#[47]⟩ w
  rwa [prefix_slash] at this

theorem bts_seg_get (t : ByteArray) (a k : Nat) : (bts (t.extract a t.size))[k]? = (bts t)[a + k]? := by
  rw [bts_extract, seg, List.getElem?_drop, List.take_of_length_le (by rw [bts_length]; exact Nat.le_refl _)]
theorem bts_47 (u : ByteArray) (k : Nat) : (bts u)[k]? = some 47 ↔ u.data.toList[k]? = some 47 := by
  unfold bts
  rw [List.getElem?_map]
  cases u.data.toList[k]? with
  | none => simp
  | some b =>
    simp only [Option.map_some, Option.some.injEq]
    exact ⟨fun h => UInt8.toNat_inj.1 (by show b.toNat = 47; omega), fun h => by subst h; rfl⟩

/-- Where the segment that begins at a ends. -/
def EndsAt (t : ByteArray) (a e : Nat) : Prop :=
  a ≤ e ∧ e ≤ t.size ∧ (∀ k, a ≤ k → k < e → (bts t)[k]? ≠ some 47) ∧ (e = t.size ∨ (bts t)[e]? = some 47)
theorem idx_spec (t : ByteArray) (a : Nat) (ha : a ≤ t.size) : ∃ (e : Nat) (i : Int), EndsAt t a e ∧ Lib.indexByte (t.extract a t.size).data.toList 47 = i ∧ ((i < 0 ∧ e = t.size) ∨ (0 ≤ i ∧ (a : Int) + i = e)) := by
  have hge := Lib.indexByte_ge (t.extract a t.size).data.toList 47
  by_cases hn : Lib.indexByte (t.extract a t.size).data.toList 47 = -1
  · refine ⟨t.size, _, ⟨ha, Nat.le_refl _, fun k h1 h2 h => ?_, .inl rfl⟩, rfl, .inl ⟨by omega, rfl⟩⟩
    have := Lib.indexByte_none hn (k - a)
    rw [Ne, ← bts_47, bts_seg_get, show a + (k - a) = k by omega] at this
    exact this h
  · obtain ⟨o, ho⟩ : ∃ o : Nat, Lib.indexByte (t.extract a t.size).data.toList 47 = o := ⟨(Lib.indexByte (t.extract a t.size).data.toList 47).toNat, by omega⟩
    obtain ⟨h1, h2⟩ := Lib.indexByte_some ho
    rw [← bts_47, bts_seg_get] at h1
    have hl := (List.getElem?_eq_some_iff.1 h1).1
    rw [bts_length] at hl
    refine ⟨a + o, _, ⟨by omega, by omega, fun k k1 k2 h => ?_, .inr h1⟩, rfl, .inr ⟨by omega, by omega⟩⟩
    have := h2 (k - a) (by omega)
    rw [Ne, ← bts_47, bts_seg_get, show a + (k - a) = k by omega] at this
    exact this h

theorem bts_append (x y : ByteArray) : bts (x ++ y) = bts x ++ bts y := by simp [bts]
theorem strCells_append (x y : ByteArray) : Lib.strCells (x ++ y) = Lib.strCells x ++ Lib.strCells y := by simp [Lib.strCells]

/-- The builder's block as 'var b strings.Builder' lays it. -/
abbrev BO : Obj := .cells #[.pointer none, .slice none 0 0] 50 (0, 0)
/-- The state of normalizeName's loop: nothing kept; a part of the text; or what the builder holds. -/
def None' (w wr : World) (st : Option (List Int)) (f u : Int) : Prop := st = none ∧ f = -1 ∧ u = -1 ∧ wr = w.alloc BO
def Part (t : ByteArray) (w wr : World) (st : Option (List Int)) (f u : Int) (a : Nat) : Prop :=
  ∃ f0 u0 : Nat, f = f0 ∧ u = u0 ∧ f0 < u0 ∧ u0 + 1 ≤ a ∧ u0 ≤ t.size ∧ st = some (seg (bts t) f0 u0) ∧ wr = w.alloc BO
def Built (w wr : World) (st : Option (List Int)) (f u : Int) (a : Nat) : Prop :=
  ∃ (r : ByteArray) (f0 u0 : Nat), f = f0 ∧ u = u0 ∧ st = some (bts r) ∧ 0 < r.size ∧ r.size + 1 ≤ a ∧ Lib.IsBuilder 50 5 w.heap.size w.heap.size (Lib.strCells r) wr ∧ Below w.heap.size w wr
def NSt (t : ByteArray) (w wr : World) (f u : Int) (a : Nat) : Prop :=
  ∃ st, NRel (bts t) st a ∧ (None' w wr st f u ∨ Part t w wr st f u a ∨ Built w wr st f u a)
theorem NSt.start (t : ByteArray) (w : World) : NSt t w (w.alloc BO) (-1) (-1) 0 := ⟨none, NRel.start _, .inl ⟨rfl, rfl, rfl, rfl⟩⟩

theorem NSt.below {t : ByteArray} {w wr : World} {f u : Int} {a : Nat} (h : NSt t w wr f u a) : Below w.heap.size w wr := by
  obtain ⟨st, _, ⟨_, _, _, rfl⟩ | ⟨_, _, _, _, _, _, _, _, rfl⟩ | ⟨_, _, _, _, _, _, _, _, _, h⟩⟩ := h
  · exact (Below.refl _ _).alloc (Nat.le_refl _) _
  · exact (Below.refl _ _).alloc (Nat.le_refl _) _
  · exact h

theorem kept_len {l : List Int} (h : dropped l = false) : 0 < l.length := by
  cases l with
  | nil => simp [dropped] at h
  | cons _ _ => simp

/-- One round. -/
theorem NSt.skip {t : ByteArray} {w wr : World} {f u : Int} {a e : Nat} (h : NSt t w wr f u a) (he : EndsAt t a e) (hd : dropped (seg (bts t) a e) = true) : NSt t w wr f u (e + 1) := by
  obtain ⟨st, hN, hc⟩ := h
  have hN' := hN.step he.1 (by rw [bts_length]; exact he.2.1) he.2.2.1 (by rw [bts_length]; exact he.2.2.2)
  rw [push_drop (dropped_iff.1 hd)] at hN'
  have := he.1
  refine ⟨st, hN', ?_⟩
  rcases hc with h | ⟨f0, u0, h1, h2, h3, h4, h5⟩ | ⟨r, f0, u0, h1, h2, h3, h4, h5, h6⟩
  · exact .inl h
  · exact .inr (.inl ⟨f0, u0, h1, h2, h3, by omega, h5⟩)
  · exact .inr (.inr ⟨r, f0, u0, h1, h2, h3, h4, by omega, h6⟩)
theorem seg_slash {t : ByteArray} {st : Option (List Int)} {a e : Nat} (hN : NRel (bts t) st a) (he : EndsAt t a e) (h0 : a ≠ 0) : seg (bts t) (a - 1) e = 47 :: seg (bts t) a e := by
  have h1 := he.1
  have h2 := he.2.1
  have hb := hN.before (by rw [bts_length]; omega) h0
  rw [seg_cons (by omega) hb (by rw [bts_length]; exact h2), show a - 1 + 1 = a by omega]

/-- The first segment that is kept. -/
theorem NRel.first {t : ByteArray} {w : World} {a e : Nat} (hN : NRel (bts t) none a) (he : EndsAt t a e) (hd : dropped (seg (bts t) a e) = false) :
    (slashB (bts t) 0 = false → NSt t w (w.alloc BO) a e (e + 1)) ∧ (slashB (bts t) 0 = true → a ≠ 0 ∧ NSt t w (w.alloc BO) ((a : Int) - 1) e (e + 1)) := by
  have hN' := hN.step he.1 (by rw [bts_length]; exact he.2.1) he.2.2.1 (by rw [bts_length]; exact he.2.2.2)
  rw [push_none (dropped_no hd)] at hN'
  have hl := kept_len hd
  rw [seg_length (by rw [bts_length]; exact he.2.1)] at hl
  have h2 := he.2.1
  refine ⟨fun hs => ?_, fun hs => ?_⟩
  · have hp : pref (bts t) = [] := by simpa using pref_drop_no (k := 0) hs
    rw [hp, List.nil_append] at hN'
    exact ⟨_, hN', .inr (.inl ⟨a, e, rfl, rfl, by omega, Nat.le_refl _, h2, rfl, rfl⟩)⟩
  · have hp : pref (bts t) = [47] := by simpa using pref_drop_yes (k := 0) hs
    have h0 : a ≠ 0 := by
      rintro rfl
      have := pref_zero hp he.2.2.1
      omega
    rw [hp, List.singleton_append, ← seg_slash hN he h0] at hN'
    exact ⟨h0, _, hN', .inr (.inl ⟨a - 1, e, by omega, rfl, by omega, Nat.le_refl _, h2, rfl, rfl⟩)⟩
/-- A later one. -/
theorem NRel.more {t : ByteArray} {R : List Int} {a e : Nat} (hN : NRel (bts t) (some R) a) (he : EndsAt t a e) (hd : dropped (seg (bts t) a e) = false) (h0 : a ≠ 0) : NRel (bts t) (some (R ++ seg (bts t) (a - 1) e)) (e + 1) := by
  have hN' := hN.step he.1 (by rw [bts_length]; exact he.2.1) he.2.2.1 (by rw [bts_length]; exact he.2.2.2)
  rw [push_some (dropped_no hd)] at hN'
  rwa [seg_slash hN he h0]
end Go.Proofs.Qxb6601275a
