/-
  Plain mathematics for the seat's statements: how a quoted text is read. No Go here.
-/
namespace Go.Proofs.Qxb6601314a

/-- A string's bytes, as numbers. -/
def bts (s : ByteArray) : List Int := s.data.toList.map fun b => (b.toNat : Int)
theorem bts_length (s : ByteArray) : (bts s).length = s.size := by
  rw [bts, List.length_map, Array.length_toList]; rfl
theorem bts_get (s : ByteArray) (k : Nat) (h : k < s.size) : (bts s)[k]? = some ((s[k]'h).toNat : Int) := by
  have h' : k < s.data.toList.length := by simpa using h
  simp only [bts, List.getElem?_map, List.getElem?_eq_getElem h', Option.map_some]
  rfl
theorem bts_inj {a b : ByteArray} (h : bts a = bts b) : a = b := by
  have hi : Function.Injective (fun b : UInt8 => (b.toNat : Int)) := fun x y e => UInt8.toNat_inj.1 (Int.ofNat.inj e)
  have := (List.map_inj_right (fun x y e => hi e)).1 h
  cases a; cases b
  simp only [ByteArray.mk.injEq]
  exact Array.ext' this
theorem bts_drop (s : ByteArray) (a : Nat) : bts (s.extract a s.size) = (bts s).drop a := by
  have e : (s.extract a s.size).data = s.data.extract a s.size := by simp
  simp only [bts, e]
  rw [Array.toList_extract, List.extract_eq_take_drop, List.map_take, List.map_drop, List.take_of_length_le]
  rw [List.length_drop, List.length_map, Array.length_toList]
  exact Nat.le_refl _
theorem drop_cons {L : List Int} {k : Nat} {c : Int} (h : L[k]? = some c) : L.drop k = c :: L.drop (k + 1) := by
  obtain ⟨hl, e⟩ := List.getElem?_eq_some_iff.1 h
  rw [List.drop_eq_getElem_cons hl, e]

/-- What a quoted text (behind its opening quote) is read as: the value, and what follows the closing quote. -/
def read : List Int → List Int → List Int × List Int
  | [], acc => (acc, [])
  | [c], acc => if c = 92 then (acc, []) else if c = 34 then (acc, []) else (acc ++ [c], [])
  | c :: d :: r, acc => if c = 92 then read r (acc ++ [d]) else if c = 34 then (acc, d :: r) else read (d :: r) (acc ++ [c])
theorem read_nil (acc : List Int) : read [] acc = (acc, []) := by simp [read]
theorem read_lone (acc : List Int) : read [92] acc = (acc, []) := by simp [read]
theorem read_bs (d : Int) (r acc : List Int) : read (92 :: d :: r) acc = read r (acc ++ [d]) := by simp [read]
theorem read_quote (r acc : List Int) : read (34 :: r) acc = (acc, r) := by cases r <;> simp [read]
theorem read_other {c : Int} (r acc : List Int) (h1 : c ≠ 92) (h2 : c ≠ 34) : read (c :: r) acc = read r (acc ++ [c]) := by cases r <;> simp [read, h1, h2]

/-- Is a byte written with a backslash before it? -/
def escB (all : Bool) (c : Int) : Bool := all || c == 92 || c == 34
def esc1 (all : Bool) (c : Int) : List Int := if escB all c then [92, c] else [c]
def esc (all : Bool) (l : List Int) : List Int := l.flatMap (esc1 all)
theorem esc1_yes {all : Bool} {c : Int} (h : escB all c = true) : esc1 all c = [92, c] := by simp [esc1, h]
theorem esc1_no {all : Bool} {c : Int} (h : escB all c = false) : esc1 all c = [c] := by simp [esc1, h]
theorem esc_len (all : Bool) (l : List Int) : (esc all l).length ≤ 2 * l.length := by
  induction l with
  | nil => simp [esc]
  | cons c l ih =>
    have h1 : (esc1 all c).length ≤ 2 := by unfold esc1; split <;> simp
    have e : esc all (c :: l) = esc1 all c ++ esc all l := by simp [esc]
    rw [e, List.length_append, List.length_cons]
    omega
theorem esc_step {all : Bool} {l : List Int} {k : Nat} {c : Int} (h : l[k]? = some c) : esc all (l.take (k + 1)) = esc all (l.take k) ++ esc1 all c := by
  rw [List.take_add_one, h]
  simp [esc]
/-- What was written is read back. -/
theorem read_esc (all : Bool) (l rest acc : List Int) : read (esc all l ++ 34 :: rest) acc = (acc ++ l, rest) := by
  induction l generalizing acc with
  | nil => simp [esc, read_quote]
  | cons c l ih =>
    have e : esc all (c :: l) ++ 34 :: rest = esc1 all c ++ (esc all l ++ 34 :: rest) := by simp [esc]
    rw [e]
    cases h : escB all c with
    | true => rw [esc1_yes h]; show read (92 :: c :: (esc all l ++ 34 :: rest)) acc = _; rw [read_bs, ih]; simp
    | false =>
      rw [esc1_no h]
      simp [escB] at h
      show read (c :: (esc all l ++ 34 :: rest)) acc = _
      rw [read_other _ _ h.1.2 h.2, ih]; simp

def BytesL (l : List Int) : Prop := ∀ z ∈ l, 0 ≤ z ∧ z ≤ 255
theorem bytes_bts (s : ByteArray) : BytesL (bts s) := fun z hz => by
  obtain ⟨b, _, rfl⟩ := List.mem_map.1 hz
  have := b.toNat_lt
  omega
theorem BytesL.append {a b : List Int} (ha : BytesL a) (hb : BytesL b) : BytesL (a ++ b) := fun z hz => by
  rcases List.mem_append.1 hz with h | h
  · exact ha z h
  · exact hb z h
theorem BytesL.one {c : Int} (h0 : 0 ≤ c ∧ c ≤ 255) : BytesL [c] := fun z hz => by
  obtain rfl : z = c := by simpa using hz
  exact h0
theorem BytesL.nil : BytesL [] := fun z hz => by cases hz
theorem bytes_esc {all : Bool} {l : List Int} (h : BytesL l) : BytesL (esc all l) := fun z hz => by
  obtain ⟨c, hc, hz'⟩ := List.mem_flatMap.1 hz
  have hcb := h c hc
  unfold esc1 at hz'
  split at hz'
  · have : z = 92 ∨ z = c := by simpa using hz'
    rcases this with rfl | rfl
    · omega
    · exact hcb
  · obtain rfl : z = c := by simpa using hz'
    exact hcb
end Go.Proofs.Qxb6601314a
