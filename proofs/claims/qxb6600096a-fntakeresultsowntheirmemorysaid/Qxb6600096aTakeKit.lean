/-
  (*span).field and what (*scratch).take wants.
-/
import Derived.Test.Qxb6600096aLayKit
import Derived.Test.Qxb6600096aUnesc
import Derived.Deep.QuietTactic
import Derived.BigQuiet
namespace Go.Proofs.Qxb6600096a
open Go.RowKit

set_option maxHeartbeats 400000 in
theorem field_any (tx : ByteArray) (g o p f : Nat) (w : World) (h0 : w.cell? ⟨g, o, none⟩ = some (.int .i64 (p : Int))) (h1 : w.cell? ⟨g, o + 1, none⟩ = some (.int .i64 ((p : Int) + f))) (hb : p + f ≤ tx.size) (_hs : tx.size ≤ 1073741824) :
    Calls Try.prog 41 #[.pointer (some ⟨g, o, none⟩), .string tx] w fun e w' => e = .returned (.string (tx.extract p (p + f))) ∧ w' = w.drew := by
  go_enter Try.func41, Try.ntmps41
  go_wp2
  go_region
  all_goals go_wp2
  all_goals go_ret
  all_goals exact ⟨rfl, rfl⟩

/-- Numbers lie there. -/
def NumsN (w : World) (a : Option Addr) (ns : List Nat) : Prop := ∀ (i n : Nat), ns[i]? = some n → ∃ b off, a = some ⟨b, off, none⟩ ∧ w.cell? ⟨b, off + i, none⟩ = some (.int .i64 (n : Int))
theorem NumsN.below {w w' : World} {a : Option Addr} {zs : List Nat} (h : NumsN w a zs) (hb : Below w.heap.size w w') : NumsN w' a zs := by
  intro i z hz
  obtain ⟨b, off, e, hc⟩ := h i z hz
  exact ⟨b, off, e, (hb.cell (World.block_lt_of_cell? _ _ hc)).trans hc⟩
theorem OwnI.shape {B : Nat} {w : World} {v : Value} {xs : List Nat} (h : OwnI B w v xs) : ∃ ao cap, v = .slice ao xs.length cap ∧ NumsN w ao xs := by
  rcases h.2 with ⟨hv, hn⟩ | ⟨g, cap, cur, hv, hg, hh, hnc, hcm, hcs, htake⟩
  · refine ⟨none, 0, by rw [hn]; exact hv, fun i z hz => ?_⟩
    have := (List.getElem?_eq_some_iff.1 hz).1
    omega
  · refine ⟨_, cap, hv, fun i z hz => ⟨g, 0, rfl, ?_⟩⟩
    have := h.cells (g := g) (by rw [hv]; rfl) i (.int .i64 (z : Int)) (by simp [hz])
    rwa [Addr.add_lit] at this

/-- A row of alternatives, the first k filled. -/
def AltRow (wr : World) (g : Nat) (l : List Alt) (k : Nat) : Prop :=
  ∃ F, wr.rowIs g 29 (l.length * 3) F ∧ ∀ (i : Nat) (x : Alt), i < k → l[i]? = some x → F (i * 3) = .string x.f ∧ F (i * 3 + 1) = .int .u8 x.c ∧ F (i * 3 + 2) = .string x.v
theorem AltRow.start (w : World) (l : List Alt) : AltRow (w.alloc (.cells (madeCells #[.string ByteArray.empty, .int .u8 0, .string ByteArray.empty] (l.length * 3)) 29)) w.heap.size l 0 := (Filled.start w l).2

theorem bts_inj {a b : ByteArray} (h : bts a = bts b) : a = b := by
  have h2 : a.data.toList = b.data.toList := by
    refine (List.map_inj_right (f := fun b : UInt8 => (b.toNat : Int)) ?_).1 h
    intro x y hxy
    have h' : (x.toNat : Int) = (y.toNat : Int) := hxy
    exact UInt8.toNat_inj.1 (by omega)
  cases a; cases b
  simp only [ByteArray.mk.injEq]
  exact Array.toList_inj.1 h2
theorem bts_extract (s : ByteArray) (a b : Nat) : bts (s.extract a b) = ((bts s).drop a).take (b - a) := by
  simp only [bts, Lib.extract_data, List.map_take, List.map_drop]

/-- What stands at a place of the text: the field, and the value as written. -/
theorem stands_parts {tx : ByteArray} {T : List Int} {x : Alt} {p : Nat} (htx : bts tx = T) (h : (T.drop p).take (altT x).length = altT x) :
    tx.extract p (p + x.f.size) = x.f ∧ bts (tx.extract (p + x.f.size + 1) (p + (altT x).length)) = esc (bts x.v) := by
  have hl := altT_len x
  have e1 : (T.drop p).take x.f.size = bts x.f := by
    have h2 : ((T.drop p).take (altT x).length).take x.f.size = (altT x).take x.f.size := by rw [h]
    rw [List.take_take, Nat.min_eq_left (by omega)] at h2
    rw [h2]
    unfold altT
    rw [List.take_append_of_le_length (by rw [bts_length]; exact Nat.le_refl _), List.take_of_length_le (by rw [bts_length]; exact Nat.le_refl _)]
  refine ⟨bts_inj ?_, ?_⟩
  · rw [bts_extract, htx, show p + x.f.size - p = x.f.size by omega, e1]
  · have h2 : ((T.drop p).take (altT x).length).drop (x.f.size + 1) = (altT x).drop (x.f.size + 1) := by rw [h]
    rw [List.drop_take, List.drop_drop] at h2
    rw [bts_extract, htx, show p + (altT x).length - (p + x.f.size + 1) = (altT x).length - (x.f.size + 1) by omega, show p + x.f.size + 1 = p + (x.f.size + 1) by omega, h2]
    unfold altT
    rw [List.drop_append, List.drop_of_length_le (by rw [bts_length]; omega), bts_length, show x.f.size + 1 - x.f.size = 1 by omega]
    rfl

/-- The three stores of one alternative. -/
theorem AltRow.step {g k : Nat} {l : List Alt} {wr : World} {x : Alt} (h : AltRow wr g l k) (hx : l[k]? = some x) :
    AltRow ((((wr.setCell { block := g, off := k * 3 } (Value.string x.f)).setCell { block := g, off := k * 3 + 1 } (Value.int IntKind.u8 x.c)).setCell { block := g, off := k * 3 + 2 } (Value.string x.v))) g l (k + 1) := by
  obtain ⟨F, hr, hF⟩ := h
  refine ⟨_, (((hr.set (k * 3) _).set (k * 3 + 1) _).set (k * 3 + 2) _), ?_⟩
  intro i y hi hy
  by_cases e : i = k
  · subst e
    rw [hx] at hy
    obtain rfl := Option.some.inj hy
    refine ⟨?_, ?_, ?_⟩
    · rw [if_neg (by omega), if_neg (by omega), if_pos rfl]
    · rw [if_neg (by omega), if_pos rfl]
    · rw [if_pos rfl]
  · obtain ⟨h0, h1, h2⟩ := hF i y (by omega) hy
    refine ⟨?_, ?_, ?_⟩
    · rw [if_neg (by omega), if_neg (by omega), if_neg (by omega)]; exact h0
    · rw [if_neg (by omega), if_neg (by omega), if_neg (by omega)]; exact h1
    · rw [if_neg (by omega), if_neg (by omega), if_neg (by omega)]; exact h2

/-- Alternative k has been laid, its value as written. -/
def AltMid (wr : World) (g : Nat) (l : List Alt) (k : Nat) (x : Alt) (V : ByteArray) : Prop :=
  ∃ F, wr.rowIs g 29 (l.length * 3) F ∧ (∀ (i : Nat) (y : Alt), i < k → l[i]? = some y → F (i * 3) = .string y.f ∧ F (i * 3 + 1) = .int .u8 y.c ∧ F (i * 3 + 2) = .string y.v) ∧ F (k * 3) = .string x.f ∧ F (k * 3 + 1) = .int .u8 x.c ∧ F (k * 3 + 2) = .string V
theorem AltRow.mid {g k : Nat} {l : List Alt} {wr : World} {x : Alt} (h : AltRow wr g l k) (V : ByteArray) :
    AltMid ((((wr.setCell { block := g, off := k * 3 } (Value.string x.f)).setCell { block := g, off := k * 3 + 1 } (Value.int IntKind.u8 x.c)).setCell { block := g, off := k * 3 + 2 } (Value.string V))) g l k x V := by
  obtain ⟨F, hr, hF⟩ := h
  refine ⟨_, (((hr.set (k * 3) _).set (k * 3 + 1) _).set (k * 3 + 2) _), ?_, ?_, ?_, ?_⟩
  · intro i y hi hy
    obtain ⟨h0, h1, h2⟩ := hF i y hi hy
    refine ⟨?_, ?_, ?_⟩
    · rw [if_neg (by omega), if_neg (by omega), if_neg (by omega)]; exact h0
    · rw [if_neg (by omega), if_neg (by omega), if_neg (by omega)]; exact h1
    · rw [if_neg (by omega), if_neg (by omega), if_neg (by omega)]; exact h2
  · rw [if_neg (by omega), if_neg (by omega), if_pos rfl]
  · rw [if_neg (by omega), if_pos rfl]
  · rw [if_pos rfl]
theorem AltMid.below {g k : Nat} {l : List Alt} {w w' : World} {x : Alt} {V : ByteArray} (h : AltMid w g l k x V) (hb : Below w.heap.size w w') : AltMid w' g l k x V := by
  obtain ⟨F, hr, r⟩ := h
  exact ⟨F, rowIs_below hr hb, r⟩
theorem AltMid.fix {g k : Nat} {l : List Alt} {wr : World} {x : Alt} {V : ByteArray} (h : AltMid wr g l k x V) (hx : l[k]? = some x) : AltRow (wr.setCell { block := g, off := k * 3 + 2 } (Value.string x.v)) g l (k + 1) := by
  obtain ⟨F, hr, hF, a0, a1, _⟩ := h
  refine ⟨_, hr.set (k * 3 + 2) _, ?_⟩
  intro i y hi hy
  by_cases e : i = k
  · subst e
    rw [hx] at hy
    obtain rfl := Option.some.inj hy
    refine ⟨?_, ?_, ?_⟩
    · rw [if_neg (by omega)]; exact a0
    · rw [if_neg (by omega)]; exact a1
    · rw [if_pos rfl]
  · obtain ⟨h0, h1, h2⟩ := hF i y (by omega) hy
    refine ⟨?_, ?_, ?_⟩
    · rw [if_neg (by omega)]; exact h0
    · rw [if_neg (by omega)]; exact h1
    · rw [if_neg (by omega)]; exact h2

/-- A value not escaped stands for itself. -/
theorem esc_same {v : List Int} (h : (esc v).length = v.length) : esc v = v := by
  induction v with
  | nil => rfl
  | cons c v ih =>
    have e : esc (c :: v) = esc1 c ++ esc v := by simp [esc]
    have h1 := esc_len_ge v
    rw [e, List.length_append, List.length_cons] at h
    cases hb : escB c with
    | true => rw [esc1_yes hb] at h; simp at h; omega
    | false =>
      rw [esc1_no hb] at h
      rw [e, esc1_no hb, ih (by simp at h; omega)]
      rfl


/-- slices.Clone of a slice of numbers. -/
theorem clone_any (aE : Option Addr) (cap : Nat) (E : List Nat) (w : World) (hE : NumsN w aE E) (hl : E.length ≤ 1000000) :
    Calls Try.prog 42 #[.slice aE E.length cap] w fun e w' => (∃ v, e = .returned v ∧ OwnI w.heap.size w' v E) ∧ Below w.heap.size w w' := by
  cases aE with
  | none =>
    have hn : E = [] := by
      cases E with
      | nil => rfl
      | cons z r =>
        obtain ⟨_, _, e, _⟩ := hE 0 z rfl
        cases e
    subst hn
    refine (Try.slices_Clone_int_nil 0 cap w).mono ?_
    rintro e w' ⟨rfl, rfl⟩
    exact ⟨⟨_, rfl, OwnI.nil _ _⟩, Below.refl _ _⟩
  | some a =>
    by_cases h0 : E = []
    · subst h0
      refine (Try.slices_Clone_int_zero a cap w).mono ?_
      rintro e w' ⟨v, rfl, ho, _, hb⟩
      exact ⟨⟨_, rfl, ho⟩, hb⟩
    · obtain ⟨z, hz⟩ : ∃ z, E[0]? = some z := ⟨_, List.getElem?_eq_getElem (List.length_pos_iff.2 h0)⟩
      obtain ⟨b, off, e, _⟩ := hE 0 z hz
      obtain rfl := Option.some.inj e
      refine (Try.slices_Clone_int b off E.length cap (E.map fun n : Nat => (n : Int)) w (by simp) (by omega) ?_).mono ?_
      · intro j hj
        rw [List.length_map] at hj
        obtain ⟨b', off', e', hc⟩ := hE j _ (List.getElem?_eq_getElem hj)
        obtain ⟨rfl, rfl⟩ : b = b' ∧ off = off' := by simpa using e'
        rw [hc, List.getD_eq_getElem?_getD, List.getElem?_map, List.getElem?_eq_getElem hj]
        rfl
      · rintro e w' ⟨v, rfl, ho, _, hb⟩
        refine ⟨⟨_, rfl, ?_⟩, hb⟩
        unfold OwnI
        rw [List.take_of_length_le (by simp), List.map_map] at ho
        exact ho

/-- The restrictions, the first k laid: each a part of the row of alternatives, its capacity cut to its length. -/
def RsRow (w : World) (G B : Nat) (S : List Nat) (k : Nat) : Prop :=
  ∃ F, w.rowIs G 32 S.length F ∧ ∀ (i s : Nat), i < k → S[i]? = some s → F i = .slice (some ⟨B, loOf S i * 3, none⟩) (s - loOf S i) (s - loOf S i)

theorem Try.info32 : (Try.prog.info? 32).map (fun i => (i.zero, i.size, i.bytes)) = some (some (.agg #[.slice none 0 0]), 1, 24) := by kernel_rfl
theorem make_rs (n : Nat) (hn : n ≤ 65536) (w : World) :
    (Instr.makeSlice 52 (.int .i64 (n : Int)) (.int .i64 (n : Int))).run Try.prog w = .ok (.slice (some ⟨w.heap.size, 0, none⟩) n n) (w.alloc (.cells (madeCells #[.slice none 0 0] (n * 1)) 32)) := by
  obtain ⟨i, hi, hz0, hz1, hz2⟩ := info_parts Try.info32
  have hr := run_make (P := Try.prog) w 52 32 i _ Try.underlying52 hi hz0 .i64 .i64 n n (by omega) (Int.le_refl _) (by rw [hz2]; omega) (by omega)
  simp only [Int.toNat_natCast, hz1] at hr
  exact hr
theorem RsRow.start (w : World) (B : Nat) (S : List Nat) : RsRow (w.alloc (.cells (madeCells #[.slice none 0 0] (S.length * 1)) 32)) w.heap.size B S 0 := by
  have h := World.rowIs_alloc w (madeCells #[.slice none 0 0] (S.length * 1)) 32 (fun i => (madeCells #[.slice none 0 0] (S.length * 1))[i]?.getD default) (fun i hi => by rw [Array.getElem?_eq_getElem hi]; rfl)
  rw [size_madeCells, Nat.mul_one] at h
  exact ⟨_, by simpa using h, fun i s hi => absurd hi (Nat.not_lt_zero i)⟩
theorem RsRow.step {w : World} {G B k s : Nat} {S : List Nat} (h : RsRow w G B S k) (hs : S[k]? = some s) : RsRow (w.setCell ⟨G, k, none⟩ (.slice (some ⟨B, loOf S k * 3, none⟩) (s - loOf S k) (s - loOf S k))) G B S (k + 1) := by
  obtain ⟨F, hr, hF⟩ := h
  refine ⟨_, hr.set k _, ?_⟩
  intro i s' hi hs'
  by_cases e : i = k
  · subst e
    rw [hs] at hs'
    obtain rfl := Option.some.inj hs'
    rw [if_pos rfl]
  · rw [if_neg e]
    exact hF i s' (by omega) hs'
theorem AltRow.setOther {g k : Nat} {l : List Alt} {w : World} (h : AltRow w g l k) {G : Nat} (hne : g ≠ G) (o : Nat) (v : Value) : AltRow (w.setCell ⟨G, o, none⟩ v) g l k := by
  obtain ⟨F, hr, hF⟩ := h
  exact ⟨F, hr.setOther (a := ⟨G, o, none⟩) hne v, hF⟩
theorem AltRow.below {g k : Nat} {l : List Alt} {w w' : World} (h : AltRow w g l k) (hb : Below w.heap.size w w') : AltRow w' g l k := by
  obtain ⟨F, hr, hF⟩ := h
  exact ⟨F, rowIs_below hr hb, hF⟩
theorem RsRow.below {G B k : Nat} {S : List Nat} {w w' : World} (h : RsRow w G B S k) (hb : Below w.heap.size w w') : RsRow w' G B S k := by
  obtain ⟨F, hr, hF⟩ := h
  exact ⟨F, rowIs_below hr hb, hF⟩
theorem AltRow.lt {g k : Nat} {l : List Alt} {w : World} (h : AltRow w g l k) : g < w.heap.size := by
  obtain ⟨F, hr, _⟩ := h
  exact hr.lt
theorem RsRow.lt {G B k : Nat} {S : List Nat} {w : World} (h : RsRow w G B S k) : G < w.heap.size := by
  obtain ⟨F, hr, _⟩ := h
  exact hr.lt

/-- What take hands back. -/
def RetTake (B : Nat) (l : List Alt) (S E : List Nat) (w : World) (e : Ending) (w' : World) : Prop :=
  ∃ A G vG, e = .returned (.tuple #[.slice (some ⟨G, 0, none⟩) S.length S.length, vG]) ∧ B ≤ A ∧ A < G ∧ RsRow w' G A S S.length ∧ AltRow w' A l l.length ∧ OwnI (G + 1) w' vG E ∧ Below B w w'

end Go.Proofs.Qxb6600096a
