/-
  Plain mathematics for the seat's statement: a path's segments, its normal form. No Go here.
-/
namespace Go.Proofs.Qxb6601275a

/-- A string's bytes, as numbers. -/
def bts (s : ByteArray) : List Int := s.data.toList.map fun b => (b.toNat : Int)
theorem bts_length (s : ByteArray) : (bts s).length = s.size := by
  rw [bts, List.length_map, Array.length_toList]; rfl
theorem bts_get (s : ByteArray) (k : Nat) (h : k < s.size) : (bts s)[k]? = some ((s[k]'h).toNat : Int) := by
  have h' : k < s.data.toList.length := by simpa using h
  simp only [bts, List.getElem?_map, List.getElem?_eq_getElem h', Option.map_some]
  rfl
theorem bts_inj {a b : ByteArray} (h : bts a = bts b) : a = b := by
  have hi : Function.Injective (fun b : UInt8 => (b.toNat : Int)) := fun x y e => UInt8.toNat_inj.1 (Int.ofNat.inj e)
  have := (List.map_inj_right (fun x y e => hi e)).1 h
  cases a; cases b
  simp only [ByteArray.mk.injEq]
  exact Array.ext' this

/-- The bytes from a on, up to b. -/
def seg (L : List Int) (a b : Nat) : List Int := (L.take b).drop a
theorem bts_extract (s : ByteArray) (a b : Nat) : bts (s.extract a b) = seg (bts s) a b := by
  have e : (s.extract a b).data = s.data.extract a b := by simp
  simp only [bts, seg, e]
  rw [Array.toList_extract, List.extract_eq_take_drop, List.map_take, List.map_drop, List.drop_take]
theorem seg_length {L : List Int} {a b : Nat} (h : b ≤ L.length) : (seg L a b).length = b - a := by simp [seg]; omega
theorem seg_self (L : List Int) (a : Nat) : seg L a a = [] := by
  unfold seg; rw [List.drop_eq_nil_iff, List.length_take]; omega
theorem seg_snoc {L : List Int} {a b : Nat} {c : Int} (h : a ≤ b) (hc : L[b]? = some c) : seg L a (b + 1) = seg L a b ++ [c] := by
  unfold seg
  have hl := (List.getElem?_eq_some_iff.1 hc).1
  rw [List.take_add_one, hc, List.drop_append_of_le_length (by rw [List.length_take]; omega)]
  rfl
theorem seg_split {L : List Int} {a b c : Nat} (h1 : a ≤ b) (h2 : b ≤ c) (h3 : c ≤ L.length) : seg L a c = seg L a b ++ seg L b c := by
  unfold seg
  have e : L.take c = L.take b ++ (L.take c).drop b := by
    conv => lhs; rw [← List.take_append_drop b (L.take c)]
    rw [List.take_take, Nat.min_eq_left h2]
  conv => lhs; rw [e]
  rw [List.drop_append_of_le_length (by rw [List.length_take]; omega)]
theorem seg_cons {L : List Int} {a b : Nat} {c : Int} (h : a < b) (hc : L[a]? = some c) (hb : b ≤ L.length) : seg L a b = c :: seg L (a + 1) b := by
  rw [seg_split (b := a + 1) (by omega) (by omega) hb, seg_snoc (Nat.le_refl _) hc, seg_self]; rfl
theorem seg_full (L : List Int) (a : Nat) : seg L a L.length = L.drop a := by unfold seg; rw [List.take_length]
theorem drop_seg {L : List Int} {a b : Nat} (h : a ≤ b) (hb : b ≤ L.length) : L.drop a = seg L a b ++ L.drop b := by
  rw [← seg_full L a, seg_split h hb (Nat.le_refl _), seg_full]

/-- What one more segment adds. -/
def push (p : List Int) (st : Option (List Int)) (s : List Int) : Option (List Int) :=
  if s = [] ∨ s = [46] then st else match st with
    | none => some (p ++ s)
    | some R => some (R ++ 47 :: s)
/-- Segment by segment. -/
def G (p : List Int) : List Int → List Int → Option (List Int) → Option (List Int)
  | [], cur, st => push p st cur
  | c :: r, cur, st => if c = 47 then G p r [] (push p st cur) else G p r (cur ++ [c]) st
def strip : List Int → List Int
  | c :: d :: r => if c = 46 ∧ d = 47 then strip r else c :: d :: r
  | l => l
def pref (S : List Int) : List Int := if S.head? = some 47 then [47] else []
def fin (S : List Int) : Option (List Int) := G (pref S) S [] none
/-- The normal form. -/
def norm (L : List Int) : List Int := (fin (strip L)).getD (pref (strip L))

theorem push_drop {p s : List Int} {st : Option (List Int)} (h : s = [] ∨ s = [46]) : push p st s = st := by simp [push, h]
theorem push_none {p s : List Int} (h : ¬ (s = [] ∨ s = [46])) : push p none s = some (p ++ s) := by simp only [push, if_neg h]
theorem push_some {p s R : List Int} (h : ¬ (s = [] ∨ s = [46])) : push p (some R) s = some (R ++ 47 :: s) := by simp only [push, if_neg h]

theorem strip_pair (r : List Int) : strip (46 :: 47 :: r) = strip r := by simp [strip]
theorem strip_drop {L : List Int} {i : Nat} (h0 : L[i]? = some 46) (h1 : L[i + 1]? = some 47) : strip (L.drop i) = strip (L.drop (i + 2)) := by
  have e : L.drop i = 46 :: 47 :: L.drop (i + 2) := by
    obtain ⟨k0, e0⟩ := List.getElem?_eq_some_iff.1 h0
    obtain ⟨k1, e1⟩ := List.getElem?_eq_some_iff.1 h1
    rw [List.drop_eq_getElem_cons k0, e0, List.drop_eq_getElem_cons k1, e1]
  rw [e, strip_pair]
theorem strip_stop {L : List Int} {i : Nat} (h : ¬ (L[i]? = some 46 ∧ L[i + 1]? = some 47)) : strip (L.drop i) = L.drop i := by
  have h0 : (L.drop i)[0]? = L[i]? := by simp
  have h1 : (L.drop i)[1]? = L[i + 1]? := by simp
  rw [← h0, ← h1] at h
  generalize L.drop i = X at h
  match X with
  | [] => rfl
  | [_] => rfl
  | c :: d :: r =>
    have : ¬ (c = 46 ∧ d = 47) := fun ⟨a, b⟩ => h (by simp [a, b])
    simp only [strip, if_neg this]

theorem G_seg {p s : List Int} (h : (47 : Int) ∉ s) (r cur : List Int) (st : Option (List Int)) : G p (s ++ r) cur st = G p r (cur ++ s) st := by
  induction s generalizing cur with
  | nil => simp
  | cons c s ih =>
    have hc : c ≠ 47 := fun e => h (by simp [e])
    rw [List.cons_append, G, if_neg hc, ih (fun hm => h (by simp [hm]))]
    simp
theorem G_slash (p r cur : List Int) (st : Option (List Int)) : G p (47 :: r) cur st = G p r [] (push p st cur) := by rw [G, if_pos rfl]
theorem G_nil (p cur : List Int) (st : Option (List Int)) : G p [] cur st = push p st cur := rfl

/-- The text up to 'start' has been taken in: its segments make st. -/
def NRel (L : List Int) (st : Option (List Int)) (start : Nat) : Prop :=
  (start ≤ L.length ∧ G (pref L) (L.drop start) [] st = fin L ∧ (start = 0 ∨ L[start - 1]? = some 47)) ∨ (start = L.length + 1 ∧ st = fin L)
theorem NRel.start (L : List Int) : NRel L none 0 := .inl ⟨Nat.zero_le _, rfl, .inl rfl⟩
theorem NRel.step {L : List Int} {st : Option (List Int)} {a e : Nat} (h : NRel L st a) (ha : a ≤ e) (he : e ≤ L.length) (hno : ∀ k, a ≤ k → k < e → L[k]? ≠ some 47) (hend : e = L.length ∨ L[e]? = some 47) :
    NRel L (push (pref L) st (seg L a e)) (e + 1) := by
  rcases h with ⟨_, hG, _⟩ | ⟨h, _⟩
  · have hn : (47 : Int) ∉ seg L a e := fun hm => by
      obtain ⟨k, hk⟩ := List.getElem?_of_mem hm
      have hl := (List.getElem?_eq_some_iff.1 hk).1
      rw [seg_length he] at hl
      unfold seg at hk
      rw [List.getElem?_drop, List.getElem?_take, if_pos (by omega)] at hk
      exact hno (a + k) (by omega) (by omega) hk
    rw [drop_seg ha he, G_seg hn, List.nil_append] at hG
    rcases hend with rfl | h47
    · rw [List.drop_length, G_nil] at hG
      exact .inr ⟨rfl, hG⟩
    · obtain ⟨hl, e1⟩ := List.getElem?_eq_some_iff.1 h47
      rw [List.drop_eq_getElem_cons hl, e1, G_slash] at hG
      exact .inl ⟨hl, hG, .inr (by simpa using h47)⟩
  · omega
theorem NRel.before {L : List Int} {st : Option (List Int)} {a : Nat} (h : NRel L st a) (hl : a ≤ L.length) (h0 : a ≠ 0) : L[a - 1]? = some 47 := by
  rcases h with ⟨_, _, h | h⟩ | ⟨h, _⟩
  · exact absurd h h0
  · exact h
  · omega
theorem NRel.done {L : List Int} {st : Option (List Int)} {a : Nat} (h : NRel L st a) (hl : ¬ a ≤ L.length) : st = fin L := by
  rcases h with ⟨h, _⟩ | ⟨_, h⟩
  · exact absurd h hl
  · exact h
theorem pref_zero {L : List Int} {e : Nat} (h : pref L = [47]) (hno : ∀ k, 0 ≤ k → k < e → L[k]? ≠ some 47) : e = 0 := by
  rcases Nat.eq_zero_or_pos e with h0 | h0
  · exact h0
  · exfalso
    refine hno 0 (Nat.le_refl _) h0 ?_
    unfold pref at h
    split at h
    · rw [← List.head?_eq_getElem?]; assumption
    · cases h

/-- The model's loop: the bytes up to j have been taken in, 'start' is where the segment in hand begins. -/
def ZRel (L : List Int) (S : List Int) (st : Option (List Int)) (start j : Nat) : Prop :=
  (start ≤ j ∧ j ≤ L.length ∧ G (pref S) (L.drop j) (seg L start j) st = fin S) ∨ (j = L.length + 1 ∧ st = fin S)
theorem ZRel.start (L : List Int) (i : Nat) (hi : i ≤ L.length) : ZRel L (L.drop i) none i i := .inl ⟨Nat.le_refl _, hi, by rw [seg_self]; rfl⟩
theorem ZRel.plain {L S : List Int} {st : Option (List Int)} {a j : Nat} {c : Int} (h : ZRel L S st a j) (hc : L[j]? = some c) (h47 : c ≠ 47) : ZRel L S st a (j + 1) := by
  obtain ⟨hl, e1⟩ := List.getElem?_eq_some_iff.1 hc
  rcases h with ⟨ha, _, hG⟩ | ⟨h, _⟩
  · rw [List.drop_eq_getElem_cons hl, e1, G, if_neg h47] at hG
    exact .inl ⟨by omega, hl, by rw [seg_snoc ha hc]; exact hG⟩
  · omega
theorem ZRel.slash {L S : List Int} {st : Option (List Int)} {a j : Nat} (h : ZRel L S st a j) (hj : j ≤ L.length) (hc : j = L.length ∨ L[j]? = some 47) : a ≤ j ∧ ZRel L S (push (pref S) st (seg L a j)) (j + 1) (j + 1) := by
  rcases h with ⟨ha, _, hG⟩ | ⟨h, _⟩
  · refine ⟨ha, ?_⟩
    rcases hc with rfl | h47
    · rw [List.drop_length, G_nil] at hG
      exact .inr ⟨rfl, hG⟩
    · obtain ⟨hl, e1⟩ := List.getElem?_eq_some_iff.1 h47
      rw [List.drop_eq_getElem_cons hl, e1, G_slash] at hG
      exact .inl ⟨Nat.le_refl _, hl, by rw [seg_self]; exact hG⟩
  · omega
theorem ZRel.done {L S : List Int} {st : Option (List Int)} {a j : Nat} (h : ZRel L S st a j) (hl : ¬ j ≤ L.length) : st = fin S := by
  rcases h with ⟨_, h, _⟩ | ⟨_, h⟩
  · exact absurd h hl
  · exact h

/-- Is a segment left out? -/
def dropped (s : List Int) : Bool := decide (s = [] ∨ s = [46])
theorem dropped_iff {s : List Int} : dropped s = true ↔ (s = [] ∨ s = [46]) := by simp [dropped]
theorem dropped_no {s : List Int} (h : dropped s = false) : ¬ (s = [] ∨ s = [46]) := by simpa [dropped] using h
end Go.Proofs.Qxb6601275a
