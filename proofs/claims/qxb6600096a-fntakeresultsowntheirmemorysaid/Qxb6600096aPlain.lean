/-
  Plain mathematics for the seat's statements: canonical text, its escapes, the scan. No Go here.
-/
namespace Go.Proofs.Qxb6600096a

/-- A string's bytes, as numbers. -/
def bts (s : ByteArray) : List Int := s.data.toList.map fun b => (b.toNat : Int)

theorem bts_length (s : ByteArray) : (bts s).length = s.size := by
  rw [bts, List.length_map, Array.length_toList]; rfl

/-- Is the byte one of the three that a value's text escapes? -/
def escB (c : Int) : Bool := c == 92 || c == 124 || c == 38
def esc1 (c : Int) : List Int := if escB c then [92, c] else [c]
def esc (l : List Int) : List Int := l.flatMap esc1

theorem esc_nil : esc [] = [] := rfl
theorem esc_snoc (l : List Int) (c : Int) : esc (l ++ [c]) = esc l ++ esc1 c := by simp [esc]
theorem esc_append (l m : List Int) : esc (l ++ m) = esc l ++ esc m := by simp [esc]
theorem esc1_yes {c : Int} (h : escB c = true) : esc1 c = [92, c] := by simp [esc1, h]
theorem esc1_no {c : Int} (h : escB c = false) : esc1 c = [c] := by simp [esc1, h]
theorem esc1_len (c : Int) : (esc1 c).length ≤ 2 := by unfold esc1; split <;> simp
theorem esc_len (l : List Int) : (esc l).length ≤ 2 * l.length := by
  induction l with
  | nil => simp [esc]
  | cons c l ih =>
    have h1 := esc1_len c
    have e : esc (c :: l) = esc1 c ++ esc l := by simp [esc]
    rw [e, List.length_append, List.length_cons]
    omega
theorem esc_len_ge (l : List Int) : l.length ≤ (esc l).length := by
  induction l with
  | nil => simp [esc]
  | cons c l ih =>
    have h1 : 1 ≤ (esc1 c).length := by unfold esc1; split <;> simp
    have e : esc (c :: l) = esc1 c ++ esc l := by simp [esc]
    rw [e, List.length_append, List.length_cons]
    omega

/-- An alternative: its field, its condition's byte, its value. -/
structure Alt where
  f : ByteArray
  c : Int
  v : ByteArray

def altT (a : Alt) : List Int := bts a.f ++ a.c :: esc (bts a.v)
def pre (l : List Alt) : List Int := l.flatMap fun a => 124 :: altT a
/-- The canonical text of a list of alternatives. -/
def txt (l : List Alt) : List Int := (pre l).tail

theorem pre_snoc (l : List Alt) (a : Alt) : pre (l ++ [a]) = pre l ++ 124 :: altT a := by simp [pre]
theorem pre_append (l m : List Alt) : pre (l ++ m) = pre l ++ pre m := by simp [pre]
theorem pre_cons (a : Alt) (l : List Alt) : pre (a :: l) = 124 :: altT a ++ pre l := by simp [pre]
theorem pre_ne (l : List Alt) (h : l ≠ []) : ∃ r, pre l = 124 :: r := by
  cases l with
  | nil => exact absurd rfl h
  | cons a l => exact ⟨_, by rw [pre_cons]; rfl⟩
theorem txt_nil : txt [] = [] := rfl
theorem txt_one (a : Alt) : txt [a] = altT a := by simp [txt, pre]
theorem txt_snoc (l : List Alt) (a : Alt) (h : l ≠ []) : txt (l ++ [a]) = txt l ++ 124 :: altT a := by
  obtain ⟨r, hr⟩ := pre_ne l h
  simp [txt, pre_snoc, hr]
theorem pre_txt (l : List Alt) (h : l ≠ []) : pre l = 124 :: txt l := by
  obtain ⟨r, hr⟩ := pre_ne l h
  simp [txt, hr]
theorem txt_len (l : List Alt) : (txt l).length ≤ (pre l).length := by simp [txt]
theorem pre_take_len (l : List Alt) (k : Nat) : (pre (l.take k)).length ≤ (pre l).length := by
  have e : pre l = pre (l.take k) ++ pre (l.drop k) := by rw [← pre_append, List.take_append_drop]
  rw [e, List.length_append]
  omega

/-! ### The scan: a backslash takes the byte behind it; the bare bars are counted -/
def scan : List Int → Option Nat
  | [] => some 0
  | [c] => if c = 92 then none else if c = 38 then none else if c = 124 then some 1 else some 0
  | c :: d :: r => if c = 92 then scan r else if c = 38 then none else if c = 124 then (scan (d :: r)).map (· + 1) else scan (d :: r)

theorem scan_bs (d : Int) (r : List Int) : scan (92 :: d :: r) = scan r := by simp [scan]
theorem scan_lone : scan [92] = none := by simp [scan]
theorem scan_amp (r : List Int) : scan (38 :: r) = none := by cases r <;> simp [scan]
theorem scan_bar (r : List Int) : scan (124 :: r) = (scan r).map (· + 1) := by cases r <;> simp [scan]
theorem scan_other {c : Int} (r : List Int) (h1 : c ≠ 92) (h2 : c ≠ 38) (h3 : c ≠ 124) : scan (c :: r) = scan r := by cases r <;> simp [scan, h1, h2, h3]

/-- The bars of a list. -/
def bars (l : List Int) : Nat := l.countP fun c => c == 124

theorem scan_plain (l r : List Int) (h : ∀ c ∈ l, c ≠ 92 ∧ c ≠ 38) : scan (l ++ r) = (scan r).map (· + bars l) := by
  induction l with
  | nil => cases hs : scan r <;> simp [bars, hs]
  | cons c l ih =>
    have hc := h c (by simp)
    have ih := ih fun d hd => h d (by simp [hd])
    by_cases h3 : c = 124
    · subst h3
      rw [List.cons_append, scan_bar, ih]
      cases scan r <;> simp [bars, Nat.add_assoc]
    · rw [List.cons_append, scan_other _ hc.1 hc.2 h3, ih]
      have : bars (c :: l) = bars l := by simp [bars, h3]
      rw [this]

theorem scan_esc (l r : List Int) : scan (esc l ++ r) = scan r := by
  induction l with
  | nil => rfl
  | cons c l ih =>
    have e : esc (c :: l) ++ r = esc1 c ++ (esc l ++ r) := by simp [esc]
    rw [e]
    cases hb : escB c with
    | true => rw [esc1_yes hb]; show scan (92 :: c :: (esc l ++ r)) = _; rw [scan_bs, ih]
    | false =>
      rw [esc1_no hb]
      simp [escB] at hb
      show scan (c :: (esc l ++ r)) = _
      rw [scan_other _ hb.1.1 hb.2 hb.1.2, ih]

def altBars (a : Alt) : Nat := bars (bts a.f) + bars [a.c]
/-- No field holds a backslash or an ampersand; no condition is either. -/
def Safe (a : Alt) : Prop := (∀ c ∈ bts a.f, c ≠ 92 ∧ c ≠ 38) ∧ a.c ≠ 92 ∧ a.c ≠ 38
def NoBar (a : Alt) : Prop := (∀ c ∈ bts a.f, c ≠ 124) ∧ a.c ≠ 124

theorem scan_alt (a : Alt) (h : Safe a) (r : List Int) : scan (altT a ++ r) = (scan r).map (· + altBars a) := by
  have e : altT a ++ r = bts a.f ++ ([a.c] ++ (esc (bts a.v) ++ r)) := by simp [altT]
  rw [e, scan_plain _ _ h.1, scan_plain [a.c] _ (by simpa using h.2), scan_esc]
  cases scan r with
  | none => rfl
  | some n => simp only [Option.map_some, altBars]; congr 1; omega

theorem scan_pre (l : List Alt) (h : ∀ a ∈ l, Safe a) : scan (pre l) = some (l.length + (l.map altBars).sum) := by
  induction l with
  | nil => rfl
  | cons a l ih =>
    have e : pre (a :: l) = 124 :: (altT a ++ pre l) := by rw [pre_cons]; rfl
    rw [e, scan_bar, scan_alt a (h a (by simp)), ih fun b hb => h b (by simp [hb])]
    simp only [Option.map_some, List.length_cons, List.map_cons, List.sum_cons]
    congr 1
    omega

theorem scan_txt (l : List Alt) (h : ∀ a ∈ l, Safe a) : scan (txt l) = some (l.length - 1 + (l.map altBars).sum) := by
  cases l with
  | nil => rfl
  | cons a l =>
    have hp := scan_pre (a :: l) h
    rw [pre_txt _ (by simp), scan_bar] at hp
    cases hs : scan (txt (a :: l)) with
    | none => simp [hs] at hp
    | some n =>
      simp only [hs, Option.map_some, Option.some.injEq, List.length_cons] at hp
      simp only [List.length_cons, Option.some.injEq]
      omega

theorem bars_zero (l : List Int) (h : ∀ c ∈ l, c ≠ 124) : bars l = 0 := by
  simp only [bars, List.countP_eq_zero]
  intro c hc
  simpa using h c hc

theorem scan_txt_noBar (l : List Alt) (h : ∀ a ∈ l, Safe a) (hb : ∀ a ∈ l, NoBar a) : scan (txt l) = some (l.length - 1) := by
  rw [scan_txt l h]
  have : (l.map altBars).sum = 0 := by
    rw [List.sum_eq_zero_iff_forall_eq_nat]
    intro x hx
    obtain ⟨a, ha, rfl⟩ := List.mem_map.1 hx
    simp only [altBars]
    rw [bars_zero _ (hb a ha).1, bars_zero [a.c] (by simpa using (hb a ha).2)]
  rw [this, Nat.add_zero]

end Go.Proofs.Qxb6600096a
