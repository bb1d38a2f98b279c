/-
  Plain mathematics for the seat's statement: quoted text, its escapes, its first quote and backslash. No Go here.
-/
namespace Go.Proofs.Qxb6601636a

def qB (c : Int) : Bool := c == 34 || c == 92
def q1 (c : Int) : List Int := if qB c then [92, c] else [c]
def qs (l : List Int) : List Int := l.flatMap q1

theorem qs_nil : qs [] = [] := rfl
theorem qs_cons (c : Int) (l : List Int) : qs (c :: l) = q1 c ++ qs l := by simp [qs]
theorem qs_append (l m : List Int) : qs (l ++ m) = qs l ++ qs m := by simp [qs]
theorem qs_snoc (l : List Int) (c : Int) : qs (l ++ [c]) = qs l ++ q1 c := by simp [qs]
theorem q1_yes {c : Int} (h : qB c = true) : q1 c = [92, c] := by simp [q1, h]
theorem q1_no {c : Int} (h : qB c = false) : q1 c = [c] := by simp [q1, h]
theorem q1_len (c : Int) : (q1 c).length ≤ 2 := by unfold q1; split <;> simp
theorem qs_len (l : List Int) : (qs l).length ≤ 2 * l.length := by
  induction l with
  | nil => simp [qs]
  | cons c l ih =>
    have h1 := q1_len c
    rw [qs_cons, List.length_append, List.length_cons]
    omega
theorem qs_plain {A : List Int} (h : ∀ c ∈ A, qB c = false) : qs A = A := by
  induction A with
  | nil => rfl
  | cons c A ih => rw [qs_cons, q1_no (h c (by simp)), ih fun d hd => h d (by simp [hd])]; rfl

/-- c is met first at place k. -/
def At (xs : List Int) (c : Int) (k : Nat) : Prop := xs[k]? = some c ∧ ∀ j, j < k → xs[j]? ≠ some c
/-- c is not met. -/
def Lacks (xs : List Int) (c : Int) : Prop := ∀ j : Nat, xs[j]? ≠ some c

theorem at_of_mem {xs : List Int} {c : Int} (h : c ∈ xs) : ∃ k, At xs c k := by
  induction xs with
  | nil => cases h
  | cons x xs ih =>
    by_cases e : x = c
    · exact ⟨0, by simp [e], fun j hj => absurd hj (Nat.not_lt_zero j)⟩
    · have hm : c ∈ xs := by
        rcases List.mem_cons.1 h with h' | h'
        · exact absurd h'.symm e
        · exact h'
      obtain ⟨k, hk, hj⟩ := ih hm
      refine ⟨k + 1, by simpa using hk, fun j hlt => ?_⟩
      cases j with
      | zero => simpa using e
      | succ j => simpa using hj j (by omega)
theorem lacks_of {xs : List Int} {c : Int} (h : c ∉ xs) : Lacks xs c := fun _ hj => h (List.mem_of_getElem? hj)
theorem at_append {A L : List Int} {c : Int} (h : c ∉ A) : At (A ++ c :: L) c A.length := by
  refine ⟨by simp, fun j hj => ?_⟩
  rw [List.getElem?_append_left hj]
  exact fun h' => h (List.mem_of_getElem? h')

/-- A text splits at its first quote or backslash. -/
theorem split_special (R : List Int) : (∀ c ∈ R, qB c = false) ∨ ∃ A c R', R = A ++ c :: R' ∧ (∀ d ∈ A, qB d = false) ∧ qB c = true := by
  induction R with
  | nil => exact .inl fun c hc => by cases hc
  | cons x R ih =>
    cases hx : qB x with
    | true => exact .inr ⟨[], x, R, rfl, (fun d hd => by cases hd), hx⟩
    | false =>
      rcases ih with h | ⟨A, c, R', rfl, hA, hc⟩
      · refine .inl fun c hc => ?_
        rcases List.mem_cons.1 hc with rfl | h'
        · exact hx
        · exact h c h'
      · refine .inr ⟨x :: A, c, R', rfl, fun d hd => ?_, hc⟩
        rcases List.mem_cons.1 hd with rfl | h'
        · exact hx
        · exact hA d h'
theorem qB_34 {A : List Int} (h : ∀ c ∈ A, qB c = false) : (34 : Int) ∉ A := fun hm => by have := h 34 hm; simp [qB] at this
theorem qB_92 {A : List Int} (h : ∀ c ∈ A, qB c = false) : (92 : Int) ∉ A := fun hm => by have := h 92 hm; simp [qB] at this

/-- ONE ROUND OF stringEnd: L is what is left of the text: either no backslash stands ahead of the first quote, which closes; or the first backslash stands at k, ahead of the first quote, and behind its pair the rest is of the same make. -/
theorem round (R tail : List Int) : ∃ q, At (qs R ++ 34 :: tail) 34 q ∧
    ((q = (qs R).length ∧ Lacks ((qs R ++ 34 :: tail).take q) 92) ∨
     ∃ k R', At ((qs R ++ 34 :: tail).take q) 92 k ∧ k + 2 ≤ (qs R).length ∧ (qs R ++ 34 :: tail).drop (k + 2) = qs R' ++ 34 :: tail ∧ k + 2 + (qs R').length = (qs R).length) := by
  rcases split_special R with h | ⟨A, c, R', rfl, hA, hc⟩
  · rw [qs_plain h]
    refine ⟨R.length, at_append (qB_34 h), .inl ⟨rfl, ?_⟩⟩
    rw [List.take_left]
    exact lacks_of (qB_92 h)
  · have e : qs (A ++ c :: R') ++ 34 :: tail = A ++ 92 :: c :: (qs R' ++ 34 :: tail) := by
      rw [qs_append, qs_plain hA, qs_cons, q1_yes hc]
      simp
    have el : (qs (A ++ c :: R')).length = A.length + 2 + (qs R').length := by
      rw [qs_append, qs_plain hA, qs_cons, q1_yes hc]
      simp
      omega
    have hm : (34 : Int) ∈ A ++ 92 :: c :: (qs R' ++ 34 :: tail) := by simp
    obtain ⟨q, hq, hmin⟩ := at_of_mem hm
    have hqA : A.length < q := by
      rcases Nat.lt_or_ge A.length q with h | h
      · exact h
      · exfalso
        rcases Nat.lt_or_ge q A.length with h' | h'
        · rw [List.getElem?_append_left h'] at hq
          exact qB_34 hA (List.mem_of_getElem? hq)
        · have : q = A.length := by omega
          subst this
          simp at hq
    rw [e, el]
    refine ⟨q, ⟨hq, hmin⟩, .inr ⟨A.length, R', ?_, by omega, ?_, by omega⟩⟩
    · refine ⟨?_, fun j hj => ?_⟩
      · rw [List.getElem?_take, if_pos hqA]; simp
      · rw [List.getElem?_take, if_pos (by omega), List.getElem?_append_left hj]
        exact fun h' => qB_92 hA (List.mem_of_getElem? h')
    · rw [List.drop_append, List.drop_of_length_le (by omega), show A.length + 2 - A.length = 2 by omega]
      rfl

end Go.Proofs.Qxb6601636a
