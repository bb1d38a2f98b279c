/-
  Plain mathematics of a text of several restrictions: where each alternative stands, where each restriction stops and ends. No Go here.
-/
import Derived.Test.Qxb6600096aPlain
namespace Go.Proofs.Qxb6600096a

/-- One restriction of the text: alternatives lo .. s-1, its text from b to e. -/
def Seg (l : List Alt) (T : List Int) (lo b s e : Nat) : Prop :=
  lo < s ∧ s ≤ l.length ∧ b ≤ e ∧ e ≤ T.length ∧ (T.drop b).take (e - b) = txt ((l.take s).drop lo)

theorem Seg.mono {l : List Alt} {T : List Int} {lo b s e : Nat} (h : Seg l T lo b s e) (X : List Int) : Seg l (T ++ X) lo b s e := by
  obtain ⟨h1, h2, h3, h4, h5⟩ := h
  refine ⟨h1, h2, h3, by rw [List.length_append]; omega, ?_⟩
  rw [List.drop_append_of_le_length (by omega), List.take_append_of_le_length (by rw [List.length_drop]; omega), h5]

/-- Where restriction g's alternatives begin. -/
def loOf (S : List Nat) (g : Nat) : Nat := (0 :: S).getD g 0
/-- Where restriction g's text begins. -/
def beginOf (E : List Nat) (g : Nat) : Nat := (0 :: E.map (· + 1)).getD g 0

theorem loOf_zero (S : List Nat) : loOf S 0 = 0 := rfl
theorem beginOf_zero (E : List Nat) : beginOf E 0 = 0 := rfl
theorem loOf_succ {S : List Nat} {g s : Nat} (h : S[g]? = some s) : loOf S (g + 1) = s := by
  unfold loOf; rw [List.getD_cons_succ, List.getD_eq_getElem?_getD, h]; rfl
theorem beginOf_succ {E : List Nat} {g e : Nat} (h : E[g]? = some e) : beginOf E (g + 1) = e + 1 := by
  unfold beginOf; rw [List.getD_cons_succ, List.getD_eq_getElem?_getD, List.getElem?_map, h]; rfl
theorem loOf_snoc (S : List Nat) (s g : Nat) (h : g ≤ S.length) : loOf (S ++ [s]) g = loOf S g := by
  cases g with
  | zero => rfl
  | succ g => unfold loOf; rw [List.getD_cons_succ, List.getD_cons_succ, List.getD_eq_getElem?_getD, List.getD_eq_getElem?_getD, List.getElem?_append_left (by omega)]
theorem beginOf_snoc (E : List Nat) (e g : Nat) (h : g ≤ E.length) : beginOf (E ++ [e]) g = beginOf E g := by
  cases g with
  | zero => rfl
  | succ g => unfold beginOf; rw [List.getD_cons_succ, List.getD_cons_succ, List.getD_eq_getElem?_getD, List.getD_eq_getElem?_getD, List.getElem?_map, List.getElem?_map, List.getElem?_append_left (by omega)]

def AllSeg (l : List Alt) (T : List Int) (S E : List Nat) : Prop :=
  S.length = E.length ∧ ∀ (g s e : Nat), S[g]? = some s → E[g]? = some e → Seg l T (loOf S g) (beginOf E g) s e

theorem AllSeg.nil (l : List Alt) (T : List Int) : AllSeg l T [] [] := ⟨rfl, fun g s e h => by simp at h⟩
theorem AllSeg.mono {l : List Alt} {T : List Int} {S E : List Nat} (h : AllSeg l T S E) (X : List Int) : AllSeg l (T ++ X) S E := ⟨h.1, fun g s e hs he => (h.2 g s e hs he).mono X⟩
theorem AllSeg.snoc {l : List Alt} {T : List Int} {S E : List Nat} (h : AllSeg l T S E) {s e : Nat} (hs : Seg l T (loOf S S.length) (beginOf E E.length) s e) : AllSeg l T (S ++ [s]) (E ++ [e]) := by
  refine ⟨by rw [List.length_append, List.length_append, h.1]; rfl, fun g s' e' h1 h2 => ?_⟩
  rcases Nat.lt_or_ge g S.length with hg | hg
  · rw [List.getElem?_append_left hg] at h1
    rw [List.getElem?_append_left (by rw [← h.1]; exact hg)] at h2
    rw [loOf_snoc _ _ _ (by omega), beginOf_snoc _ _ _ (by rw [← h.1]; omega)]
    exact h.2 g s' e' h1 h2
  · rw [List.getElem?_append_right hg] at h1
    rw [List.getElem?_append_right (by rw [← h.1]; exact hg)] at h2
    have hg0 : g - S.length = 0 := by
      rcases Nat.eq_zero_or_pos (g - S.length) with h | h
      · exact h
      · rw [List.getElem?_eq_none (by simp; omega)] at h1; cases h1
    have hg' : g = S.length := by omega
    rw [hg0] at h1
    rw [show g - E.length = 0 by rw [← h.1]; omega] at h2
    obtain rfl : s = s' := by simpa using h1
    obtain rfl : e = e' := by simpa using h2
    subst hg'
    rw [loOf_snoc _ _ _ (Nat.le_refl _), beginOf_snoc _ _ _ (by rw [h.1]; exact Nat.le_refl _)]
    have : beginOf E S.length = beginOf E E.length := by rw [h.1]
    rw [this]
    exact hs

/-- Alternative i's text stands at P[i]. -/
def Stands (l : List Alt) (T : List Int) (P : List Nat) : Prop :=
  ∀ (i p : Nat) (x : Alt), P[i]? = some p → l[i]? = some x → p + (altT x).length ≤ T.length ∧ (T.drop p).take (altT x).length = altT x

theorem Stands.mono {l : List Alt} {T : List Int} {P : List Nat} (h : Stands l T P) (X : List Int) : Stands l (T ++ X) P := by
  intro i p x hp hx
  obtain ⟨h1, h2⟩ := h i p x hp hx
  refine ⟨by rw [List.length_append]; omega, ?_⟩
  rw [List.drop_append_of_le_length (by omega), List.take_append_of_le_length (by rw [List.length_drop]; omega), h2]
theorem Stands.snoc {l : List Alt} {T : List Int} {P : List Nat} (h : Stands l T P) {x : Alt} (hx : l[P.length]? = some x) : Stands l (T ++ altT x) (P ++ [T.length]) := by
  intro i p y hp hy
  rcases Nat.lt_or_ge i P.length with hi | hi
  · rw [List.getElem?_append_left hi] at hp
    exact h.mono (altT x) i p y hp hy
  · rw [List.getElem?_append_right hi] at hp
    have hi0 : i - P.length = 0 := by
      rcases Nat.eq_zero_or_pos (i - P.length) with h | h
      · exact h
      · rw [List.getElem?_eq_none (by simp; omega)] at hp; cases hp
    have hi' : i = P.length := by omega
    subst hi'
    rw [hi0] at hp
    obtain rfl : T.length = p := by simpa using hp
    rw [hx] at hy
    obtain rfl := Option.some.inj hy
    refine ⟨by rw [List.length_append]; exact Nat.le_refl _, ?_⟩
    rw [List.drop_left, List.take_length]

/-- The state behind k alternatives. -/
def LaySt (l : List Alt) (k : Nat) (T : List Int) (S E P : List Nat) : Prop :=
  k ≤ l.length ∧ P.length = k ∧ Stands l T P ∧ AllSeg l T S E ∧ beginOf E E.length ≤ T.length ∧ loOf S S.length ≤ k ∧ (0 < k → loOf S S.length < k) ∧
    T.drop (beginOf E E.length) = txt ((l.take k).drop (loOf S S.length)) ∧ T.length ≤ (pre (l.take k)).length

/-- The state ahead of alternative k's own text. -/
def Mid (l : List Alt) (k : Nat) (T : List Int) (S E P : List Nat) : Prop :=
  ∀ x, l[k]? = some x → LaySt l (k + 1) (T ++ altT x) S E (P ++ [T.length]) ∧ T.length + (altT x).length ≤ (pre l).length

theorem LaySt.start (l : List Alt) : LaySt l 0 [] [] [] [] :=
  ⟨Nat.zero_le _, rfl, fun i p x hp => by simp at hp, AllSeg.nil _ _, Nat.le_refl _, Nat.le_refl _, fun h => absurd h (Nat.lt_irrefl 0), by simp [txt_nil, loOf, beginOf], Nat.zero_le _⟩

theorem take_snoc {l : List Alt} {k : Nat} {x : Alt} (hx : l[k]? = some x) : l.take (k + 1) = l.take k ++ [x] := by rw [List.take_add_one, hx]; rfl

theorem LaySt.first {l : List Alt} {T : List Int} {S E P : List Nat} (h : LaySt l 0 T S E P) : Mid l 0 T S E P := by
  intro x hx
  obtain ⟨hk, hP, hst, hseg, hb, hlo, _, hcur, hlen⟩ := h
  have hT : T = [] := by
    have : T.length ≤ 0 := by simpa [pre] using hlen
    exact List.eq_nil_of_length_eq_zero (by omega)
  subst hT
  have hb0 : beginOf E E.length = 0 := by simpa using hb
  have hlo0 : loOf S S.length = 0 := by omega
  have e := take_snoc hx
  have hl1 : (altT x).length ≤ (pre (l.take 1)).length := by
    rw [e]
    simp [pre]
  refine ⟨⟨by have := (List.getElem?_eq_some_iff.1 hx).1; omega, by simp [hP], hst.snoc (by rw [hP]; exact hx), hseg.mono _, by rw [hb0]; omega, by omega, fun _ => by omega, ?_, by simpa using hl1⟩, ?_⟩
  · rw [hb0, hlo0, e]
    simp [txt_one]
  · have := pre_take_len l 1
    simp only [List.length_nil]
    omega

theorem LaySt.bar {l : List Alt} {k : Nat} {T : List Int} {S E P : List Nat} (h : LaySt l k T S E P) (h0 : 0 < k) : Mid l k (T ++ [124]) S E P := by
  intro x hx
  obtain ⟨hk, hP, hst, hseg, hb, hlo, hlt, hcur, hlen⟩ := h
  have hlt := hlt h0
  have e := take_snoc hx
  have hl1 : T.length + 1 + (altT x).length ≤ (pre (l.take (k + 1))).length := by
    rw [e, pre_snoc, List.length_append, List.length_cons]
    omega
  have hkl := (List.getElem?_eq_some_iff.1 hx).1
  refine ⟨⟨by omega, by simp [hP], (hst.mono _).snoc (by rw [hP]; exact hx), (hseg.mono _).mono _, by simp; omega, by omega, fun _ => by omega, ?_, by simp; omega⟩, ?_⟩
  · rw [e, List.append_assoc, List.drop_append_of_le_length hb, hcur, List.drop_append_of_le_length (by rw [List.length_take]; omega), txt_snoc]
    · rfl
    · intro hnil
      have := congrArg List.length hnil
      rw [List.length_drop, List.length_take] at this
      simp only [List.length_nil] at this
      omega
  · have := pre_take_len l (k + 1)
    simp only [List.length_append, List.length_cons, List.length_nil]
    omega

theorem LaySt.seg {l : List Alt} {k : Nat} {T : List Int} {S E P : List Nat} (h : LaySt l k T S E P) (h0 : 0 < k) : Seg l T (loOf S S.length) (beginOf E E.length) k T.length := by
  obtain ⟨hk, hP, hst, hseg, hb, hlo, hlt, hcur, hlen⟩ := h
  exact ⟨hlt h0, hk, hb, Nat.le_refl _, by rw [List.take_of_length_le (by rw [List.length_drop]; omega), hcur]⟩

theorem LaySt.amp {l : List Alt} {k : Nat} {T : List Int} {S E P : List Nat} (h : LaySt l k T S E P) (h0 : 0 < k) : Mid l k (T ++ [38]) (S ++ [k]) (E ++ [T.length]) P := by
  intro x hx
  have hsg := h.seg h0
  obtain ⟨hk, hP, hst, hseg, hb, hlo, hlt, hcur, hlen⟩ := h
  have e := take_snoc hx
  have hl1 : T.length + 1 + (altT x).length ≤ (pre (l.take (k + 1))).length := by
    rw [e, pre_snoc, List.length_append, List.length_cons]
    omega
  have hkl := (List.getElem?_eq_some_iff.1 hx).1
  have e1 : loOf (S ++ [k]) (S ++ [k]).length = k := by
    rw [List.length_append]; exact loOf_succ (by rw [List.getElem?_append_right (Nat.le_refl _)]; simp)
  have e2 : beginOf (E ++ [T.length]) (E ++ [T.length]).length = T.length + 1 := by
    rw [List.length_append]; exact beginOf_succ (by rw [List.getElem?_append_right (Nat.le_refl _)]; simp)
  refine ⟨⟨by omega, by simp [hP], (hst.mono _).snoc (by rw [hP]; exact hx), ((hseg.snoc hsg).mono _).mono _, by rw [e2]; simp, by rw [e1]; omega, fun _ => by rw [e1]; omega, ?_, by simp; omega⟩, ?_⟩
  · rw [e1, e2, e]
    have a1 : T ++ [38] ++ altT x = (T ++ [38]) ++ altT x := rfl
    rw [a1, show T.length + 1 = (T ++ [38]).length by simp, List.drop_left]
    have a2 : (l.take k ++ [x]).drop k = [x] := by
      have : k = (l.take k).length := by rw [List.length_take]; omega
      conv => lhs; arg 1; rw [this]
      exact List.drop_left
    rw [a2, txt_one]
  · have := pre_take_len l (k + 1)
    simp only [List.length_append, List.length_cons, List.length_nil]
    omega

/-- What zzLayOut hands back. -/
def Laid (l : List Alt) (T : List Int) (S E P : List Nat) : Prop :=
  P.length = l.length ∧ Stands l T P ∧ AllSeg l T S E ∧ loOf S S.length = l.length ∧ T.length ≤ (pre l).length ∧ S.length ≤ l.length

theorem loOf_last (S : List Nat) (k : Nat) : loOf (S ++ [k]) (S ++ [k]).length = k := by
  rw [List.length_append]; exact loOf_succ (by rw [List.getElem?_append_right (Nat.le_refl _)]; simp)

/-- There are no more restrictions than alternatives. -/
theorem AllSeg.count {l : List Alt} {T : List Int} {S E : List Nat} (h : AllSeg l T S E) : ∀ g, g ≤ S.length → g ≤ loOf S g := by
  intro g
  induction g with
  | zero => intro _; exact Nat.zero_le _
  | succ g ih =>
    intro hg
    have hs : S[g]? = some S[g] := List.getElem?_eq_getElem (by omega)
    have he : E[g]? = some (E[g]'(by rw [← h.1]; omega)) := List.getElem?_eq_getElem (by rw [← h.1]; omega)
    have := (h.2 g _ _ hs he).1
    rw [loOf_succ hs]
    have := ih (by omega)
    omega

theorem LaySt.finish {l : List Alt} {T : List Int} {S E P : List Nat} (h : LaySt l l.length T S E P) (h0 : 0 < l.length) : Laid l T (S ++ [l.length]) (E ++ [T.length]) P := by
  have hsg := h.seg h0
  obtain ⟨hk, hP, hst, hseg, hb, hlo, hlt, hcur, hlen⟩ := h
  have ha := hseg.snoc hsg
  refine ⟨hP, hst, ha, loOf_last _ _, by rwa [List.take_of_length_le (Nat.le_refl _)] at hlen, ?_⟩
  have := ha.count _ (Nat.le_refl _)
  rwa [loOf_last] at this
theorem LaySt.empty {l : List Alt} {T : List Int} {S E P : List Nat} (h : LaySt l l.length T S E P) (h0 : l.length = 0) : Laid l T S E P := by
  obtain ⟨hk, hP, hst, hseg, hb, hlo, hlt, hcur, hlen⟩ := h
  have hlo' : loOf S S.length = l.length := by omega
  refine ⟨hP, hst, hseg, hlo', by rwa [List.take_of_length_le (Nat.le_refl _)] at hlen, ?_⟩
  have := hseg.count _ (Nat.le_refl _)
  omega
theorem LaySt.count {l : List Alt} {k : Nat} {T : List Int} {S E P : List Nat} (h : LaySt l k T S E P) : S.length ≤ k ∧ E.length ≤ k := by
  obtain ⟨hk, hP, hst, hseg, hb, hlo, hlt, hcur, hlen⟩ := h
  have := hseg.count _ (Nat.le_refl _)
  have := hseg.1
  omega

end Go.Proofs.Qxb6600096a
