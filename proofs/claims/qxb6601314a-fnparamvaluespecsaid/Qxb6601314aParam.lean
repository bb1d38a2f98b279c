/-
  paramValue at a text that opens with a quote: it answers as 'read' says.
-/
import Derived.Test.Qxb6601314aKit
import Derived.Test.Qxb6601314aShelf
namespace Go.Proofs.Qxb6601314a
open Go.RowKit

def RetTwo (e : Ending) (p : List Int × List Int) : Prop := ∃ v r : ByteArray, e = .returned (.tuple #[.string v, .string r]) ∧ bts v = p.1 ∧ bts r = p.2
theorem beqI (x y : UInt8) : (x == y) = ((x.toNat : Int) == (y.toNat : Int)) := by
  by_cases h : x = y
  · subst h; simp
  · have : ¬ (x.toNat : Int) = y.toNat := fun e => h (UInt8.toNat_inj.1 (Int.ofNat.inj e))
    rw [beq_eq_false_iff_ne.2 h, beq_eq_false_iff_ne.2 this]
def quoteB (L : List Int) : Bool := L[0]? == some 34
theorem prefix_quote (t : ByteArray) : Lib.hasPrefix t.data.toList (⟨#[34]⟩ : ByteArray).data.toList = quoteB (bts t) := by
  unfold Lib.hasPrefix quoteB bts
  generalize t.data.toList = l
  match l with
  | [] => rfl
  | x :: r =>
    show ((34 : UInt8) == x && true) = _
    rw [beqI 34 x]
    simp
    rw [Bool.beq_comm (a := (34 : Int))]
theorem has_quote (t : ByteArray) (w : World) : Calls Try.prog 12 #[.string t, .string ⟨#[34]⟩] w fun e w' => e = .returned (.bool (quoteB (bts t))) ∧ w' = w := by
  have := Try.strings_HasPrefix t ⟨#[34]⟩ w
  rwa [prefix_quote] at this

theorem bts_push (r : ByteArray) (b : UInt8) : bts (r.push b) = bts r ++ [(b.toNat : Int)] := by
  simp [bts]
theorem strCells_push (r : ByteArray) (b : UInt8) : Lib.strCells (r.push b) = Lib.strCells r ++ [.int .u8 (b.toNat : Int)] := by
  simp [Lib.strCells]
theorem push_size (r : ByteArray) (b : UInt8) : (r.push b).size = r.size + 1 := by rw [← bts_length, bts_push, List.length_append, bts_length]; rfl

/-- The loop's state: the bytes up to k have been read into the builder. -/
def PSt (t : ByteArray) (w wr : World) (k : Nat) : Prop :=
  ∃ r : ByteArray, read ((bts t).drop k) (bts r) = read ((bts t).drop 1) [] ∧ r.size ≤ k ∧ Lib.IsBuilder 33 5 w.heap.size w.heap.size (Lib.strCells r) wr ∧ Below w.heap.size w wr
theorem PSt.start (t : ByteArray) (w : World) : PSt t w (w.alloc (.cells #[.pointer none, .slice none 0 0] 33)) 1 :=
  ⟨ByteArray.empty, rfl, by simp, Lib.fresh_isBuilder 33 5 w, (Below.refl _ _).alloc (Nat.le_refl _) _⟩

set_option maxRecDepth 100000 in
set_option maxHeartbeats 1000000 in
theorem quoted_any (t : ByteArray) (w : World) (ht : t.size ≤ 2097152) (hq : quoteB (bts t) = true) :
    Calls Try.prog 11 #[.string t] w fun e w' => RetTwo e (read ((bts t).drop 1) []) ∧ Below w.heap.size w w' := by
  have HH := hide (has_quote t w)
  have hpos : 0 < t.size := by
    rcases Nat.eq_zero_or_pos t.size with h | h
    · rw [quoteB, List.getElem?_eq_none (by rw [bts_length]; omega)] at hq
      cases hq
    · exact h
  rw [hq] at HH
  clear hq
  go_enter Try.func11, Try.ntmps11
  go_wp2_with fail
  refine HH.out.mono ?_
  rintro e w' ⟨rfl, hw⟩
  obtain rfl := hw.symm
  clear hw HH
  go_wp2
  go_loopw [6] (fun i wr => ∃ k : Nat, k ≤ t.size ∧ i = .int .i64 k ∧ PSt t w wr k) (fun i _ => t.size - (intOf i).toNat)
  case atStart => exact ⟨1, by omega, rfl, PSt.start t w⟩
  case round =>
    obtain ⟨k, hk, rfl, r, hrd, hrs, hB, hbel⟩ := hrel
    have HR := hide hrd
    have HB := hide hB
    have hsz := hbel.size
    have hln : (Lib.strCells r).length = r.size := Lib.strCells_length r
    clear hrd hB
    by_cases hlt : k < t.size
    · have HG := hide (bts_get t k hlt)
      cases h92 : (((t[k]'hlt).toNat : Int) == 92)
      · cases h34 : (((t[k]'hlt).toNat : Int) == 34)
        · have hst : ∀ w2, Lib.BuilderAt 33 5 w.heap.size w.heap.size (.pointer (some ⟨w.heap.size, 0, none⟩)) (Lib.strCells r ++ [.int .u8 ((t[k]'hlt).toNat : Int)]) w2 → Below w.heap.size wr w2 → PSt t w w2 (k + 1) := fun w2 hb h2 =>
            ⟨r.push t[k], by rw [bts_push, ← read_other _ _ (by simpa using h92) (by simpa using h34), ← drop_cons HG.out]; exact HR.out, by rw [push_size]; omega, .inr (by rw [strCells_push]; exact hb), hbel.trans h2⟩
          have HST := hide hst
          clear hst
          go_wp2_with fail
          refine (Try.Builder_WriteByte w.heap.size w.heap.size _ _ _ HB.out (by omega) hsz).mono ?_
          rintro e w2 ⟨rfl, hbd, hb2⟩
          have hst' := hide (HST.out w2 hbd hb2)
          clear hbd HST
          go_wp2
          go_roundw
          case rel => exact ⟨k + 1, by omega, by go_num, hst'.out⟩
          case measure => simp [intOf]; omega
        · have HF : Hid (read ((bts t).drop 1) [] = (bts r, (bts t).drop (k + 1))) := by
            show _ = _
            rw [← HR.out, drop_cons HG.out, show ((t[k]'hlt).toNat : Int) = 34 by simpa using h34, read_quote]
          have HS := hide (Try.Builder_String_any w.heap.size w.heap.size r.data.toList wr.drew (by exact HB.out) (by exact hsz))
          have hbd := hbel.drew
          go_wp2
          have HD := hide (bts_drop t (k + 1))
          have hA : (k : Int) + 1 ≤ (t.size : Int) := by omega
          have hA2 : k + 1 ≤ t.size := by omega
          have hA3 : (0 : Int) ≤ (k : Int) + 1 := by omega
          have hA4 : ((k : Int) + 1).toNat = k + 1 := by omega
          have hA5 : IntKind.i64.wrap ((k : Int) + 1) = (k : Int) + 1 := IntWalk.i64_in _ (by omega)
          go_region_with (go_at_call 15; refine HS.out.mono ?_; rintro e w2 ⟨rfl, hb2⟩)
          all_goals
            go_wp2
            go_ret2
            exact ⟨⟨r, t.extract (k + 1) t.size, rfl, by rw [HF.out], by rw [HF.out]; exact HD.out⟩, hbd.trans ‹Below w.heap.size wr.drew _›⟩
      · have hc : ((t[k]'hlt).toNat : Int) = 92 := by simpa using h92
        have HC := hide hc
        clear hc
        by_cases hlt1 : k + 1 < t.size
        · have HG1 := hide (bts_get t (k + 1) hlt1)
          have hst : ∀ w2, Lib.BuilderAt 33 5 w.heap.size w.heap.size (.pointer (some ⟨w.heap.size, 0, none⟩)) (Lib.strCells r ++ [.int .u8 ((t[k + 1]'hlt1).toNat : Int)]) w2 → Below w.heap.size wr w2 → PSt t w w2 (k + 2) := fun w2 hb h2 =>
            ⟨r.push t[k + 1], by rw [bts_push, ← read_bs, ← drop_cons HG1.out, ← HC.out, ← drop_cons HG.out]; exact HR.out, by rw [push_size]; omega, .inr (by rw [strCells_push]; exact hb), hbel.trans h2⟩
          have HST := hide hst
          clear hst
          go_wp2_with fail
          refine (Try.Builder_WriteByte w.heap.size w.heap.size _ _ _ HB.out (by omega) hsz).mono ?_
          rintro e w2 ⟨rfl, hbd, hb2⟩
          have hst' := hide (HST.out w2 hbd hb2)
          clear hbd HST
          go_wp2
          go_roundw
          case rel => exact ⟨k + 2, by omega, by go_num, hst'.out⟩
          case measure => simp [intOf]; omega
        · have hst' : Hid (PSt t w wr (k + 1)) := by
            refine ⟨r, ?_, by omega, HB.out, hbel⟩
            have e : (bts t).drop (k + 1) = [] := List.drop_eq_nil_of_le (by rw [bts_length]; omega)
            have h := HR.out
            rw [drop_cons HG.out, HC.out, e, read_lone] at h
            rw [e, read_nil]
            exact h
          go_wp2
          go_roundw
          case rel => exact ⟨k + 1, by omega, by go_num, hst'.out⟩
          case measure => simp [intOf]; omega
    · have HF : Hid (read ((bts t).drop 1) [] = (bts r, [])) := by
        show _ = _
        rw [← HR.out, List.drop_eq_nil_of_le (by rw [bts_length]; omega), read_nil]
      go_wp2_with fail
      refine (Try.Builder_String_any w.heap.size w.heap.size r.data.toList _ HB.out hsz).mono ?_
      rintro e w2 ⟨rfl, hb2⟩
      go_wp2
      go_ret2
      exact ⟨⟨r, ByteArray.empty, rfl, by rw [HF.out], by rw [HF.out]; rfl⟩, hbel.trans hb2⟩
end Go.Proofs.Qxb6601314a
