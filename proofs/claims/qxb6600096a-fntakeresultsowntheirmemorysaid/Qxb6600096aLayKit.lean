/-
  zzLayOut: what its walk wants.
-/
import Derived.Test.Qxb6600096aSplits
import Derived.Test.Qxb6600096aKeep
import Derived.Test.Qxb6600096aLayPlain
import Derived.Deep.LoopGhost
import Derived.Deep.DeepCutAuto
namespace Go.Proofs.Qxb6600096a
open Go.RowKit

theorem Try.info57 : (Try.prog.info? 57).map (fun i => (i.zero, i.size, i.bytes)) = some (some (.agg #[.int .i64 0, .int .i64 0, .int .i64 0, .int .i64 0, .int .u8 0, .bool false]), 6, 40) := by kernel_rfl

theorem make_spans (n : Nat) (hn : n ≤ 65536) (w : World) :
    (Instr.makeSlice 48 (.int .i64 (n : Int)) (.int .i64 (n : Int))).run Try.prog w = .ok (.slice (some ⟨w.heap.size, 0, none⟩) n n) (w.alloc (.cells (madeCells #[.int .i64 0, .int .i64 0, .int .i64 0, .int .i64 0, .int .u8 0, .bool false] (n * 6)) 57)) := by
  obtain ⟨i, hi, hz0, hz1, hz2⟩ := info_parts Try.info57
  have hr := run_make (P := Try.prog) w 48 57 i _ Try.underlying48 hi hz0 .i64 .i64 n n (by omega) (Int.le_refl _) (by rw [hz2]; omega) (by omega)
  simp only [Int.toNat_natCast, hz1] at hr
  exact hr

/-- A slice of bools lies there. -/
def Bools (w : World) (a : Option Addr) (bs : List Bool) : Prop :=
  ∀ (i : Nat) (z : Bool), bs[i]? = some z → ∃ b off, a = some ⟨b, off, none⟩ ∧ w.cell? ⟨b, off + i, none⟩ = some (.bool z)
theorem Bools.below {w w' : World} {a : Option Addr} {zs : List Bool} (h : Bools w a zs) (hb : Below w.heap.size w w') : Bools w' a zs := by
  intro i z hz
  obtain ⟨b, off, e, hc⟩ := h i z hz
  exact ⟨b, off, e, (hb.cell (World.block_lt_of_cell? _ _ hc)).trans hc⟩

/-- The six cells of a span. -/
def SpanIs (F : Nat → Value) (o : Nat) (x : Alt) (p : Nat) : Prop :=
  F o = .int .i64 (p : Int) ∧ F (o + 1) = .int .i64 ((p : Int) + x.f.size) ∧ F (o + 2) = .int .i64 ((p : Int) + x.f.size + 1) ∧ F (o + 3) = .int .i64 ((p : Int) + (altT x).length) ∧ F (o + 4) = .int .u8 x.c ∧
    ∃ b, F (o + 5) = .bool b ∧ (b = false → (esc (bts x.v)).length = x.v.size)

/-- The first k spans have been laid. -/
def SpRow (t : TypeId) (wr : World) (g : Nat) (l : List Alt) (k : Nat) (P : List Nat) : Prop :=
  ∃ F, wr.rowIs g t (l.length * 6) F ∧ ∀ (i p : Nat) (x : Alt), i < k → l[i]? = some x → P[i]? = some p → SpanIs F (i * 6) x p

theorem SpRow.start (t : TypeId) (w : World) (l : List Alt) (c : Array Value) (hc : c.size = l.length * 6) : SpRow t (w.alloc (.cells c t)) w.heap.size l 0 [] := by
  have h := World.rowIs_alloc w c t (fun i => c[i]?.getD default) (fun i hi => by simp [hi])
  rw [hc] at h
  exact ⟨_, h, fun i p x hi => absurd hi (Nat.not_lt_zero i)⟩
theorem SpRow.kept {t t' : TypeId} {B g k : Nat} {l : List Alt} {P : List Nat} {w w' : World} (h : SpRow t w g l k P) (hk : KeptT t' B w w') (hne : t ≠ t') : SpRow t w' g l k P := by
  obtain ⟨F, hr, hF⟩ := h
  exact ⟨F, hk.rowIs hr hne, hF⟩
theorem SpRow.below {t : TypeId} {g k : Nat} {l : List Alt} {P : List Nat} {w w' : World} (h : SpRow t w g l k P) (hb : Below w.heap.size w w') : SpRow t w' g l k P := by
  obtain ⟨F, hr, hF⟩ := h
  exact ⟨F, rowIs_below hr hb, hF⟩
theorem SpRow.alloc {t : TypeId} {g k : Nat} {l : List Alt} {P : List Nat} {w : World} (h : SpRow t w g l k P) (o : Obj) : SpRow t (w.alloc o) g l k P := h.below ((Below.refl _ _).alloc (Nat.le_refl _) _)

theorem cell_alloc {w : World} {p : Addr} {v : Value} (h : w.cell? p = some v) (o : Obj) : (w.alloc o).cell? p = some v :=
  (World.cell?_of_block (w := w) (Below.heap_alloc w o p.block (World.block_lt_of_cell? _ _ h))).trans h

/-- One alternative in a restriction of its own. -/
def OneR (wc wx : World) (x : Alt) (u : Value) : Prop :=
  ∃ R A, u = .pointer (some ⟨R, 0, none⟩) ∧ wx.cell? ⟨R, 0, none⟩ = some (.slice (some ⟨A, 0, none⟩) 1 1) ∧ AltsAt wx (some ⟨A, 0, none⟩) [x] ∧ Below wc.heap.size wc wx

theorem altsOne {w : World} {A : Nat} {x : Alt} (h : w.heap[A]? = some (Obj.cells #[.string x.f, .int .u8 x.c, .string x.v] 29 (0, 0))) (hf : x.f.size ≤ maxLen) (hv : x.v.size ≤ maxLen) : AltsAt w (some ⟨A, 0, none⟩) [x] := by
  intro k y hy
  have hk : k = 0 := by
    have := (List.getElem?_eq_some_iff.1 hy).1
    simp at this
    exact this
  subst hk
  obtain rfl : x = y := by simpa using hy
  exact ⟨A, 0, rfl, by simp [World.cell?, h], by simp [World.cell?, h], by simp [World.cell?, h], hf, hv⟩
theorem OneR.ab (wc : World) (x : Alt) (hf : x.f.size ≤ maxLen) (hv : x.v.size ≤ maxLen) : OneR wc
    ((wc.alloc (Obj.cells #[Value.string x.f, Value.int IntKind.u8 x.c, Value.string x.v] 29)).alloc (Obj.cells #[Value.slice (some { block := wc.heap.size, off := 0 }) 1 1] 32)).drew x (Value.pointer (some { block := wc.heap.size + 1, off := 0 })) := by
  have hb := (((Below.refl wc.heap.size wc).alloc (Nat.le_refl _) (Obj.cells #[Value.string x.f, Value.int IntKind.u8 x.c, Value.string x.v] 29)).alloc (by simp) (Obj.cells #[Value.slice (some { block := wc.heap.size, off := 0 }) 1 1] 32)).drew
  refine ⟨wc.heap.size + 1, wc.heap.size, rfl, ?_, altsOne ?_ hf hv, hb⟩
  · have h := heap_alloc_new (wc.alloc (Obj.cells #[Value.string x.f, Value.int IntKind.u8 x.c, Value.string x.v] 29)) (Obj.cells #[Value.slice (some { block := wc.heap.size, off := 0 }) 1 1] 32)
    rw [show (wc.alloc (Obj.cells #[Value.string x.f, Value.int IntKind.u8 x.c, Value.string x.v] 29)).heap.size = wc.heap.size + 1 by simp] at h
    exact (cell_of_row _ _ 0 _ 32 (0, 0) h).trans rfl
  · show ((wc.alloc _).alloc _).heap[wc.heap.size]? = _
    rw [Below.heap_alloc _ _ _ (by simp)]
    exact heap_alloc_new wc _
theorem OneR.ba (wc : World) (x : Alt) (hf : x.f.size ≤ maxLen) (hv : x.v.size ≤ maxLen) : OneR wc
    ((wc.alloc (Obj.cells #[Value.slice (some { block := wc.heap.size + 1, off := 0 }) 1 1] 32)).alloc (Obj.cells #[Value.string x.f, Value.int IntKind.u8 x.c, Value.string x.v] 29)).drew x (Value.pointer (some { block := wc.heap.size, off := 0 })) := by
  have hb := (((Below.refl wc.heap.size wc).alloc (Nat.le_refl _) (Obj.cells #[Value.slice (some { block := wc.heap.size + 1, off := 0 }) 1 1] 32)).alloc (by simp) (Obj.cells #[Value.string x.f, Value.int IntKind.u8 x.c, Value.string x.v] 29)).drew
  refine ⟨wc.heap.size, wc.heap.size + 1, rfl, ?_, altsOne ?_ hf hv, hb⟩
  · have h : ((wc.alloc (Obj.cells #[Value.slice (some { block := wc.heap.size + 1, off := 0 }) 1 1] 32)).alloc (Obj.cells #[Value.string x.f, Value.int IntKind.u8 x.c, Value.string x.v] 29)).heap[wc.heap.size]? = some (Obj.cells #[Value.slice (some { block := wc.heap.size + 1, off := 0 }) 1 1] 32) := by
      rw [Below.heap_alloc _ _ _ (by simp)]
      exact heap_alloc_new wc _
    exact (cell_of_row _ _ 0 _ 32 (0, 0) h).trans rfl
  · have h := heap_alloc_new (wc.alloc (Obj.cells #[Value.slice (some { block := wc.heap.size + 1, off := 0 }) 1 1] 32)) (Obj.cells #[Value.string x.f, Value.int IntKind.u8 x.c, Value.string x.v] 29)
    rw [show (wc.alloc (Obj.cells #[Value.slice (some { block := wc.heap.size + 1, off := 0 }) 1 1] 32)).heap.size = wc.heap.size + 1 by simp] at h
    exact h

/-- The text of one alternative. -/
theorem text1_any (x : Alt) (A : Nat) (w : World) (hA : AltsAt w (some ⟨A, 0, none⟩) [x]) (hlen : (altT x).length ≤ 1073741823) :
    Calls Try.prog 17 #[.agg #[.slice (some ⟨A, 0, none⟩) 1 1], .slice none 0 0] w fun e w' => (∃ v, e = .returned v ∧ Own w.heap.size w' v (altT x)) ∧ Below w.heap.size w w' := by
  have h := zzText_any (some ⟨A, 0, none⟩) 1 [x] w (by simp) hA (by simp [pre]; omega)
  rwa [txt_one] at h

theorem altT_len (x : Alt) : (altT x).length = x.f.size + 1 + (esc (bts x.v)).length := by
  simp only [altT, List.length_append, List.length_cons, bts_length]; omega

/-- The store of one span. -/
theorem SpRow.step {t : TypeId} {g k p : Nat} {l : List Alt} {P : List Nat} {wr : World} {x : Alt} (h : SpRow t wr g l k P) (hx : l[k]? = some x) (hP : P.length = k) (b : Bool) (hb : b = false → (esc (bts x.v)).length = x.v.size) :
    SpRow t ((((((wr.setCell ⟨g, k * 6, none⟩ (.int .i64 (p : Int))).setCell ⟨g, k * 6 + 1, none⟩ (.int .i64 ((p : Int) + x.f.size))).setCell ⟨g, k * 6 + 2, none⟩ (.int .i64 ((p : Int) + x.f.size + 1))).setCell ⟨g, k * 6 + 3, none⟩
      (.int .i64 ((p : Int) + (altT x).length))).setCell ⟨g, k * 6 + 4, none⟩ (.int .u8 x.c)).setCell ⟨g, k * 6 + 5, none⟩ (.bool b)).drew g l (k + 1) (P ++ [p]) := by
  obtain ⟨F, hr, hF⟩ := h
  refine ⟨_, ((((((hr.set (k * 6) _).set (k * 6 + 1) _).set (k * 6 + 2) _).set (k * 6 + 3) _).set (k * 6 + 4) _).set (k * 6 + 5) _).drew, ?_⟩
  intro i q y hi hy hq
  by_cases e : i = k
  · subst e
    rw [hx] at hy
    obtain rfl := Option.some.inj hy
    rw [List.getElem?_append_right (by omega), hP, Nat.sub_self] at hq
    obtain rfl : p = q := by simpa using hq
    refine ⟨?_, ?_, ?_, ?_, ?_, b, ?_, hb⟩
    · dsimp only; rw [if_neg (by omega), if_neg (by omega), if_neg (by omega), if_neg (by omega), if_neg (by omega), if_pos rfl]
    · dsimp only; rw [if_neg (by omega), if_neg (by omega), if_neg (by omega), if_neg (by omega), if_pos rfl]
    · dsimp only; rw [if_neg (by omega), if_neg (by omega), if_neg (by omega), if_pos rfl]
    · dsimp only; rw [if_neg (by omega), if_neg (by omega), if_pos rfl]
    · dsimp only; rw [if_neg (by omega), if_pos rfl]
    · dsimp only; rw [if_pos rfl]
  · rw [List.getElem?_append_left (by omega)] at hq
    obtain ⟨h0, h1, h2, h3, h4, b', h5, h6⟩ := hF i q y (by omega) hy hq
    refine ⟨?_, ?_, ?_, ?_, ?_, b', ?_, h6⟩
    all_goals dsimp only
    all_goals rw [if_neg (by omega), if_neg (by omega), if_neg (by omega), if_neg (by omega), if_neg (by omega), if_neg (by omega)]
    all_goals assumption

theorem Own.belowW {B : Nat} {w w' : World} {v : Value} {xs : List Int} (h : Own B w v xs) (hb : Below w.heap.size w w') : Own B w' v xs := ownsRow_below h hb
theorem OwnI.belowW {B : Nat} {w w' : World} {v : Value} {xs : List Nat} (h : OwnI B w v xs) (hb : Below w.heap.size w w') : OwnI B w' v xs := ownsRow_below h hb

/-- The memory at the loop's head. -/
def LayW (B : Nat) (l : List Alt) (k : Nat) (vT vS vE : Value) (T : List Int) (S E P : List Nat) (w wr : World) : Prop :=
  Own B wr vT T ∧ OwnI B wr vS S ∧ OwnI B wr vE E ∧ Apart vS vE ∧ SpRow 57 wr B l k P ∧ Below B w wr

/-- Every number is a byte. -/
def BytesL (T : List Int) : Prop := ∀ z ∈ T, 0 ≤ z ∧ z ≤ 255
theorem BytesL.nil : BytesL [] := fun z h => by cases h
theorem BytesL.append {T U : List Int} (h : BytesL T) (k : BytesL U) : BytesL (T ++ U) := fun z hz => by
  rcases List.mem_append.1 hz with h' | h'
  · exact h z h'
  · exact k z h'
theorem BytesL.one {c : Int} (h0 : 0 ≤ c) (h1 : c ≤ 255) : BytesL [c] := fun z hz => by
  obtain rfl : z = c := by simpa using hz
  exact ⟨h0, h1⟩
theorem bts_bytes (s : ByteArray) : BytesL (bts s) := fun z hz => by
  obtain ⟨b, _, rfl⟩ := List.mem_map.1 hz
  have := b.toNat_lt
  show 0 ≤ (b.toNat : Int) ∧ (b.toNat : Int) ≤ 255
  omega
theorem esc_bytes {l : List Int} (h : BytesL l) : BytesL (esc l) := fun z hz => by
  obtain ⟨c, hc, hz'⟩ := List.mem_flatMap.1 hz
  have hcb := h c hc
  unfold esc1 at hz'
  split at hz'
  · have : z = 92 ∨ z = c := by simpa using hz'
    rcases this with rfl | rfl
    · omega
    · exact hcb
  · obtain rfl : z = c := by simpa using hz'
    exact hcb
theorem altT_bytes {x : Alt} (h0 : 0 ≤ x.c) (h1 : x.c ≤ 255) : BytesL (altT x) :=
  (bts_bytes x.f).append ((BytesL.one h0 h1).append (esc_bytes (bts_bytes x.v)))

/-- The memory ahead of alternative k's own text. -/
def MidW (B : Nat) (l : List Alt) (k : Nat) (vT vS vE : Value) (w wr : World) : Prop :=
  ∃ T S E P, LayW B l k vT vS vE T S E P w wr ∧ Mid l k T S E P ∧ P.length = k ∧ S.length ≤ k + 1 ∧ E.length ≤ k + 1 ∧ BytesL T

def RetLay (B : Nat) (l : List Alt) (w : World) (e : Ending) (w' : World) : Prop :=
  ∃ vT vS vE T S E P, e = .returned (.tuple #[vT, .slice (some ⟨B, 0, none⟩) l.length l.length, vS, vE, .bool true]) ∧ LayW B l l.length vT vS vE T S E P w w' ∧ Laid l T S E P ∧ BytesL T


/-- A store into a row of another type leaves what is owned. -/
theorem ownsRow_setRow {w : World} {g n m size B : Nat} {t e : TypeId} {f : Nat → Value} {v : Value} {xs : List Value} (hr : w.rowIs g t n f) (ho : w.ownsRow B e size v m xs) (hne : e ≠ t) (o : Nat) (u : Value) :
    (w.setCell ⟨g, o, none⟩ u).ownsRow B e size v m xs := by
  refine ⟨ho.1, ?_⟩
  rcases ho.2 with h2 | ⟨g', cap, cur, hv, hg, hh, r⟩
  · exact .inl h2
  · refine .inr ⟨g', cap, cur, hv, hg, ?_, r⟩
    rw [Below.heap_setCell _ _ _ _ ?_]
    · exact hh
    · intro e'
      obtain ⟨c, hb, _, _⟩ := hr
      have e'' : g' = g := e'
      subst e''
      rw [hh] at hb
      simp at hb
      exact hne hb.2
theorem ownsRow_set6 {w : World} {g n m size B : Nat} {t e : TypeId} {f : Nat → Value} {v : Value} {xs : List Value} (hr : w.rowIs g t n f) (ho : w.ownsRow B e size v m xs) (hne : e ≠ t) (o0 o1 o2 o3 o4 o5 : Nat) (u0 u1 u2 u3 u4 u5 : Value) :
    ((((((w.setCell ⟨g, o0, none⟩ u0).setCell ⟨g, o1, none⟩ u1).setCell ⟨g, o2, none⟩ u2).setCell ⟨g, o3, none⟩ u3).setCell ⟨g, o4, none⟩ u4).setCell ⟨g, o5, none⟩ u5).drew.ownsRow B e size v m xs := by
  have h0 := ownsRow_setRow hr ho hne o0 u0
  have r0 := hr.set o0 u0
  have h1 := ownsRow_setRow r0 h0 hne o1 u1
  have r1 := r0.set o1 u1
  have h2 := ownsRow_setRow r1 h1 hne o2 u2
  have r2 := r1.set o2 u2
  have h3 := ownsRow_setRow r2 h2 hne o3 u3
  have r3 := r2.set o3 u3
  have h4 := ownsRow_setRow r3 h3 hne o4 u4
  have r4 := r3.set o4 u4
  exact (ownsRow_setRow r4 h4 hne o5 u5).drew
theorem below_set6 {B g : Nat} {a w : World} (h : Below B a w) (hg : B ≤ g) (o0 o1 o2 o3 o4 o5 : Nat) (u0 u1 u2 u3 u4 u5 : Value) :
    Below B a ((((((w.setCell ⟨g, o0, none⟩ u0).setCell ⟨g, o1, none⟩ u1).setCell ⟨g, o2, none⟩ u2).setCell ⟨g, o3, none⟩ u3).setCell ⟨g, o4, none⟩ u4).setCell ⟨g, o5, none⟩ u5).drew :=
  ((((((h.setCell (p := ⟨g, o0, none⟩) hg u0).setCell (p := ⟨g, o1, none⟩) hg u1).setCell (p := ⟨g, o2, none⟩) hg u2).setCell (p := ⟨g, o3, none⟩) hg u3).setCell (p := ⟨g, o4, none⟩) hg u4).setCell (p := ⟨g, o5, none⟩) hg u5).drew

/-- What one round does. -/
theorem lay_round {B k : Nat} {l : List Alt} {x : Alt} {T : List Int} {S E P : List Nat} {vT vS vE : Value} {w w2 : World} (hx : l[k]? = some x) (hP : P.length = k) (hT : Own B w2 vT (T ++ altT x)) (hS : OwnI B w2 vS S) (hE : OwnI B w2 vE E) (hap : Apart vS vE) (hsp : SpRow 57 w2 B l k P) (hbel : Below B w w2) :
    LayW B l (k + 1) vT vS vE (T ++ altT x) S E (P ++ [T.length]) w
      ((((((w2.setCell { block := B, off := k * 6 } (Value.int IntKind.i64 (T.length : Int))).setCell { block := B, off := k * 6 + 1 } (Value.int IntKind.i64 ((T.length : Int) + x.f.size))).setCell
        { block := B, off := k * 6 + 2 } (Value.int IntKind.i64 ((T.length : Int) + x.f.size + 1))).setCell { block := B, off := k * 6 + 3 } (Value.int IntKind.i64 ((T.length : Int) + (altT x).length))).setCell
        { block := B, off := k * 6 + 4 } (Value.int IntKind.u8 x.c)).setCell { block := B, off := k * 6 + 5 } (Value.bool (((altT x).length : Int) != (x.f.size : Int) + 1 + x.v.size))).drew := by
  obtain ⟨F, hr, _⟩ := id hsp
  refine ⟨ownsRow_set6 hr hT (by decide) _ _ _ _ _ _ _ _ _ _ _ _, ownsRow_set6 hr hS (by decide) _ _ _ _ _ _ _ _ _ _ _ _, ownsRow_set6 hr hE (by decide) _ _ _ _ _ _ _ _ _ _ _ _, hap, hsp.step hx hP _ ?_, below_set6 hbel (Nat.le_refl _) _ _ _ _ _ _ _ _ _ _ _ _⟩
  intro h
  have h' : ((altT x).length : Int) = (x.f.size : Int) + 1 + x.v.size := by simpa using h
  rw [altT_len] at h'
  omega

theorem alt_room (x : Alt) : x.f.size + 1 + x.v.size ≤ (altT x).length := by
  have := altT_len x
  have h := esc_len_ge (bts x.v)
  rw [bts_length] at h
  omega

end Go.Proofs.Qxb6600096a
