/-
  unescapeValue: what an escaped value stands for.
-/
import Derived.Test.Qxb6600096aSmall
import Derived.Test.Qxb6600096aShelf
namespace Go.Proofs.Qxb6600096a
open Go.RowKit

theorem esc_at {V : List Int} {m : Nat} {c : Int} (hc : V[m]? = some c) :
    (escB c = true → (esc V)[(esc (V.take m)).length]? = some 92 ∧ (esc V)[(esc (V.take m)).length + 1]? = some c ∧ (esc (V.take (m + 1))).length = (esc (V.take m)).length + 2) ∧
    (escB c = false → (esc V)[(esc (V.take m)).length]? = some c ∧ (esc (V.take (m + 1))).length = (esc (V.take m)).length + 1) := by
  have e1 : V.take (m + 1) = V.take m ++ [c] := by rw [List.take_add_one, hc]; rfl
  have e2 : V = V.take m ++ c :: V.drop (m + 1) := by
    obtain ⟨hk, rfl⟩ := List.getElem?_eq_some_iff.1 hc
    rw [← List.drop_eq_getElem_cons hk, List.take_append_drop]
  have e3 : esc V = esc (V.take m) ++ (esc1 c ++ esc (V.drop (m + 1))) := by
    rw [← List.singleton_append] at e2
    conv => lhs; rw [e2]
    rw [esc_append, esc_append]
    congr 2
    simp [esc]
  rw [e1, esc_snoc]
  refine ⟨fun h => ?_, fun h => ?_⟩
  · rw [e3, esc1_yes h]
    refine ⟨?_, ?_, by simp⟩
    · rw [List.getElem?_append_right (Nat.le_refl _)]; simp
    · rw [List.getElem?_append_right (by omega)]; simp
  · rw [e3, esc1_no h]
    refine ⟨?_, by simp⟩
    rw [List.getElem?_append_right (Nat.le_refl _)]; simp
theorem escB_ne {c : Int} (h : escB c = false) : (c == 92) = false := by simp [escB] at h; simp [h.1.1]

theorem byteCells_snoc (v : ByteArray) (m : Nat) (h : m < v.size) : Lib.byteCells (v.data.toList.take m) ++ [.int .u8 ((v[m]'h).toNat : Int)] = Lib.byteCells (v.data.toList.take (m + 1)) := by
  rw [List.take_add_one, List.getElem?_eq_getElem (by simpa using h)]
  simp [Lib.byteCells]
  rfl

/-- The loop's state: m bytes have been written; p is where the reader stands. -/
def UnSt (v : ByteArray) (B : Nat) (w : World) (m p : Nat) (wr : World) : Prop :=
  m ≤ v.size ∧ p = (esc ((bts v).take m)).length ∧ Lib.IsBuilder 68 5 B B (Lib.byteCells (v.data.toList.take m)) wr ∧ Below B w wr

theorem UnSt.facts {raw v : ByteArray} {B m p : Nat} {w wr : World} (hraw : bts raw = esc (bts v)) (h : UnSt v B w m p wr) (hp : p < raw.size) :
    ∃ hm : m < v.size,
      (escB ((v[m]'hm).toNat : Int) = true → ((raw[p]'hp).toNat : Int) = 92 ∧ ∃ hp1 : p + 1 < raw.size, ((raw[p + 1]'hp1).toNat : Int) = ((v[m]'hm).toNat : Int) ∧ p + 2 = (esc ((bts v).take (m + 1))).length) ∧
      (escB ((v[m]'hm).toNat : Int) = false → ((raw[p]'hp).toNat : Int) = ((v[m]'hm).toNat : Int) ∧ p + 1 = (esc ((bts v).take (m + 1))).length) := by
  obtain ⟨hm, rfl, _, _⟩ := h
  have hlr : raw.size = (esc (bts v)).length := by rw [← bts_length, hraw]
  have hm' : m < v.size := by
    rcases Nat.lt_or_ge m v.size with h | h
    · exact h
    · rw [List.take_of_length_le (by rw [bts_length]; exact h)] at hp
      omega
  have hA := esc_at (bts_get v m hm')
  rw [← hraw] at hA
  refine ⟨hm', fun h => ?_, fun h => ?_⟩
  · obtain ⟨h1, h2, h3⟩ := hA.1 h
    have hp1 : (esc ((bts v).take m)).length + 1 < raw.size := by
      have := (List.getElem?_eq_some_iff.1 h2).1
      rwa [bts_length] at this
    rw [bts_get raw _ hp] at h1
    rw [bts_get raw _ hp1] at h2
    exact ⟨Option.some.inj h1, hp1, Option.some.inj h2, h3.symm⟩
  · obtain ⟨h1, h3⟩ := hA.2 h
    rw [bts_get raw _ hp] at h1
    exact ⟨Option.some.inj h1, h3.symm⟩
theorem UnSt.next {v : ByteArray} {B m p p' : Nat} {w wr w' : World} (h : UnSt v B w m p wr) (hm : m < v.size) (hp : p' = (esc ((bts v).take (m + 1))).length) {c : Int} (hc : c = ((v[m]'hm).toNat : Int))
    (hb : Lib.BuilderAt 68 5 B B (.pointer (some ⟨B, 0, none⟩)) (Lib.byteCells (v.data.toList.take m) ++ [.int .u8 c]) w') (hbel : Below B wr w') : UnSt v B w (m + 1) p' w' := by
  subst hc
  rw [byteCells_snoc v m hm] at hb
  exact ⟨hm, hp, .inr hb, h.2.2.2.trans hbel⟩
theorem UnSt.done {raw v : ByteArray} {B m p : Nat} {w wr : World} (hraw : bts raw = esc (bts v)) (h : UnSt v B w m p wr) (hp : ¬ p < raw.size) : Lib.IsBuilder 68 5 B B (Lib.byteCells v.data.toList) wr := by
  obtain ⟨hm, rfl, hb, _⟩ := h
  have hlr : raw.size = (esc (bts v)).length := by rw [← bts_length, hraw]
  have : m = v.size := by
    rcases Nat.lt_or_ge m v.size with h | h
    · exfalso
      have hA := esc_at (bts_get v m h)
      cases he : escB ((v[m]'h).toNat : Int) with
      | true =>
        have := (List.getElem?_eq_some_iff.1 (hA.1 he).1).1
        omega
      | false =>
        have := (List.getElem?_eq_some_iff.1 (hA.2 he).1).1
        omega
    · omega
  subst this
  rwa [List.take_of_length_le (by simp)] at hb

set_option maxHeartbeats 800000 in
theorem unesc_any (raw v : ByteArray) (w : World) (hraw : bts raw = esc (bts v)) (hsz : raw.size ≤ 1073741824) :
    Calls Try.prog 33 #[.string raw] w fun e w' => e = .returned (.string v) ∧ Below w.heap.size w w' := by
  have hvl : v.size ≤ raw.size := by
    have := esc_len_ge (bts v)
    rwa [← hraw, bts_length, bts_length] at this
  have HR : Hid (bts raw = esc (bts v)) := hraw
  clear hraw
  have hsa : ∀ o, w.heap.size ≤ (w.alloc o).heap.size := fun o => by simp
  go_enter Try.func33, Try.ntmps33
  go_wp2_with (go_at_call 37; refine (Try.Builder_Grow_fresh w.heap.size w.heap.size raw.size _ (Nat.le_refl _) (heap_alloc_new _ _) (hsa _) (by omega)).mono ?_; rintro e w1 ⟨rfl, hbd, hb1⟩)
  have hst : UnSt v w.heap.size w 0 0 w1 := ⟨Nat.zero_le _, by simp [esc], .inr (by simpa [Lib.byteCells] using hbd), ((Below.refl _ _).alloc (Nat.le_refl _) _).trans hb1⟩
  clear hbd hb1 hsa
  go_loopw [4] (fun i wr => ∃ m p : Nat, p ≤ raw.size ∧ i = .int .i64 p ∧ UnSt v w.heap.size w m p wr) (fun i _ => raw.size - (intOf i).toNat)
  case atStart => exact ⟨0, 0, Nat.zero_le _, rfl, hst⟩
  case round =>
    clear hst
    obtain ⟨m, p, hp, rfl, hst⟩ := hrel
    by_cases hlt : p < raw.size
    · obtain ⟨hm, hy, hn⟩ := hst.facts HR.out hlt
      have hbw := hst.2.2.2.size
      have hlen : (Lib.byteCells (v.data.toList.take m)).length + 1 ≤ 140737488355328 := by
        rw [Lib.byteCells_length, List.length_take]; omega
      cases he : escB ((v[m]'hm).toNat : Int) with
      | true =>
        obtain ⟨h92, hp1, hc, hnx⟩ := hy he
        have e92 : (((raw[p]'hlt).toNat : Int) == 92) = true := by simp [h92]
        have HC := hide hc
        have HN := hide hnx
        clear hy hn he h92 hc hnx
        go_wp2_with (go_at_call 38; refine (Try.Builder_WriteByte w.heap.size w.heap.size _ _ _ hst.2.2.1 hlen hbw).mono ?_; rintro e w2 ⟨rfl, hbd, hb2⟩)
        have hst' := hst.next hm HN.out HC.out hbd hb2
        go_wp2
        go_roundw
        case rel => exact ⟨m + 1, p + 2, by omega, by go_num, hst'⟩
        case measure => simp [intOf]; omega
      | false =>
        obtain ⟨hc, hnx⟩ := hn he
        have e92 : (((raw[p]'hlt).toNat : Int) == 92) = false := by rw [hc]; exact escB_ne he
        have HC := hide hc
        have HN := hide hnx
        clear hy hn he hc hnx
        go_wp2_with (go_at_call 38; refine (Try.Builder_WriteByte w.heap.size w.heap.size _ _ _ hst.2.2.1 hlen hbw).mono ?_; rintro e w2 ⟨rfl, hbd, hb2⟩)
        have hst' := hst.next hm HN.out HC.out hbd hb2
        go_wp2
        go_roundw
        case rel => exact ⟨m + 1, p + 1, by omega, by go_num, hst'⟩
        case measure => simp [intOf]; omega
    · have hd := hst.done HR.out hlt
      have hb := hst.2.2.2
      have hbs := hb.size
      go_wp2_with (go_at_call 39; refine (Try.Builder_String_any w.heap.size w.heap.size _ _ hd hbs).mono ?_; rintro e w2 ⟨rfl, hb2⟩)
      go_ret
      exact ⟨rfl, hb.trans hb2⟩
end Go.Proofs.Qxb6600096a
