/-
  strings.IndexAny(s, " \t,") at every s.
-/
import Derived.Test.Qxb6601314aRune
namespace Go.Proofs.Qxb6601314a
open Go.RowKit

def isSep (c : Int) : Bool := c == 32 || c == 9 || c == 44
def NoSep (L : List Int) (k : Nat) : Prop := ∀ (j : Nat) (c : Int), j < k → L[j]? = some c → isSep c = false
/-- i is where the first separator stands, or -1. -/
def SepAt (L : List Int) (i : Int) : Prop := (i = -1 ∧ NoSep L L.length) ∨ ∃ k : Nat, i = k ∧ NoSep L k ∧ ∃ c, L[k]? = some c ∧ isSep c = true
def RetSep (e : Ending) (L : List Int) : Prop := ∃ i : Int, e = .returned (.int .i64 i) ∧ SepAt L i
theorem NoSep.zero (L : List Int) : NoSep L 0 := fun _ _ h => absurd h (Nat.not_lt_zero _)
theorem NoSep.more {L : List Int} {k m : Nat} (h : NoSep L k) (hm : ∀ (j : Nat) (c : Int), k ≤ j → j < m → L[j]? = some c → isSep c = false) : NoSep L m := fun j c hj hc => by
  rcases Nat.lt_or_ge j k with h' | h'
  · exact h j c h' hc
  · exact hm j c h' hj hc
theorem sep_high {c : Int} (h : 128 ≤ c) : isSep c = false := by
  have h1 : (c == 32) = false := beq_eq_false_iff_ne.2 (by omega)
  have h2 : (c == 9) = false := beq_eq_false_iff_ne.2 (by omega)
  have h3 : (c == 44) = false := beq_eq_false_iff_ne.2 (by omega)
  simp [isSep, h1, h2, h3]
theorem sep_byte (b : UInt8) : CH.data.toList.contains b = isSep (b.toNat : Int) := by
  have e : ∀ c : UInt8, (b == c) = ((b.toNat : Int) == (c.toNat : Int)) := fun c => by
    by_cases h : b = c
    · subst h; simp
    · have : ¬ (b.toNat : Int) = c.toNat := fun e => h (UInt8.toNat_inj.1 (Int.ofNat.inj e))
      rw [beq_eq_false_iff_ne.2 h, beq_eq_false_iff_ne.2 this]
  show ([32, 9, 44] : List UInt8).contains b = _
  simp only [List.contains_cons, List.contains_nil, Bool.or_false, e]
  unfold isSep
  rw [Bool.or_assoc]
  rfl

theorem decode_bytes (s : ByteArray) (pos : Nat) (h : pos < s.size) (ha : 128 ≤ (s[pos]'h).toNat) : ∀ k, k < (Utf8.decode s pos).2 → 128 ≤ (s.get! (pos + k)).toNat := by
  have hn : ¬ (s[pos]'h).toNat < 128 := by omega
  have h0 : 128 ≤ (s.get! (pos + 0)).toNat := by rw [get_at s pos h]; exact ha
  intro k
  simp only [Utf8.decode, get_at s pos h, hn, if_false]
  repeat' split
  all_goals intro hk
  all_goals
    have hk' : k = 0 ∨ k = 1 ∨ k = 2 ∨ k = 3 := by simp only at hk; omega
    rcases hk' with rfl | rfl | rfl | rfl
  all_goals first
    | exact h0
    | (simp only at hk; omega)
    | (simp only [Bool.and_eq_true, decide_eq_true_eq, beq_iff_eq] at *; omega)
theorem decode_sep (s : ByteArray) (pos : Nat) (h : pos < s.size) (ha : 128 ≤ (s[pos]'h).toNat) : ∀ (j : Nat) (c : Int), pos ≤ j → j < pos + (Utf8.decode s pos).2 → (bts s)[j]? = some c → isSep c = false := fun j c h1 h2 hc => by
  have hj : j < s.size := by
    have := (List.getElem?_eq_some_iff.1 hc).1
    rwa [bts_length] at this
  have hb := decode_bytes s pos h ha (j - pos) (by omega)
  rw [show pos + (j - pos) = j + 0 by omega, get_at s j hj] at hb
  rw [bts_get s j hj] at hc
  obtain rfl := Option.some.inj hc
  exact sep_high (by omega)

theorem idx_sep (b : UInt8) : (0 ≤ Lib.indexByte CH.data.toList b) ↔ isSep (b.toNat : Int) = true := by
  rw [← sep_byte, Lib.contains_iff_indexByte]
  simp

set_option maxRecDepth 100000 in
set_option maxHeartbeats 1000000 in
theorem any_short (s : ByteArray) (w : World) (h8 : s.size ≤ 8) :
    Calls Try.prog 13 #[.string s, .string CH] w fun e w' => RetSep e (bts s) ∧ Below w.heap.size w w' := by
  obtain ⟨C, hC⟩ : ∃ C, Hid (CH = C) := ⟨_, hide rfl⟩
  have hsz : C.size = 3 := by obtain rfl := hC.out; rfl
  have hemp : C.toList.isEmpty = false := by obtain rfl := hC.out; rw [Lib.toList_data]; rfl
  rw [hC.out]
  have h8z : decide ((8 : Int) < (s.size : Int)) = false := decide_eq_false (by omega)
  have HS : Hid (Calls Try.prog 18 #[.int .i64 s.size] w fun e w' => e = .returned (.bool false) ∧ w' = w) := by
    go_enter Try.func18, Try.ntmps18
    go_wp2
    go_ret
    exact ⟨by first | rfl | (rw [h8z]), rfl⟩
  go_enter Try.func13, Try.ntmps13
  go_wp2_with fail
  refine HS.out.mono ?_
  rintro e w' ⟨rfl, hw⟩
  obtain rfl := hw.symm
  clear hw HS
  go_wp2
  go_loopw [9, 10] (fun _ _ wr => ∃ pos : Nat, wr.heap[w.heap.size]? = some (.stringIter s pos) ∧ NoSep (bts s) pos ∧ Below w.heap.size w wr) (fun _ _ wr => s.size - wr.iterPos w.heap.size)
  case atStart => exact ⟨0, heap_alloc_new _ _, NoSep.zero _, (Below.refl _ _).alloc (Nat.le_refl _) _⟩
  case round =>
    obtain ⟨pos, hit, hno, hbel⟩ := hrel
    have HN := hide hno
    have hpos : wr.iterPos w.heap.size = pos := by simp [World.iterPos, hit]
    clear hno
    by_cases hlt : pos < s.size
    · by_cases ha : (s[pos]'hlt).toNat < 128
      · have hnx := fun ty => Lib.run_next_ascii_at (P := Try.prog) wr w.heap.size s pos ty hit hlt ha
        obtain ⟨W1, hW1⟩ : ∃ W1, wr.iterAt w.heap.size s (pos + 1) = W1 := ⟨_, rfl⟩
        have hit1 : W1.heap[w.heap.size]? = some (.stringIter s (pos + 1)) := by rw [← hW1]; exact Lib.iterAt_heap _ _ _ _ _ hit
        have hbel1 : Below w.heap.size w W1 := by rw [← hW1]; exact Lib.below_iterAt hbel (Nat.le_refl _) _ _
        have hpos1 : W1.iterPos w.heap.size = pos + 1 := by simp [World.iterPos, hit1]
        rw [hW1] at hnx
        clear hW1
        obtain ⟨b, hb⟩ : ∃ b : UInt8, s[pos]'hlt = b := ⟨_, rfl⟩
        have HG := hide (bts_get s pos hlt)
        rw [hb] at hnx ha HG
        clear hb
        have hr := Try.strings_IndexRune_ascii C (b.toNat : Int) W1 (by omega) (by omega)
        have hi := idx_sep b
        rw [hC.out] at hi
        rw [show ((b.toNat : Int)).toNat.toUInt8 = b by simp] at hr
        obtain ⟨i, hie⟩ : ∃ i, Lib.indexByte C.data.toList b = i := ⟨_, rfl⟩
        rw [hie] at hr hi
        have HR := hide hr
        clear hr hie
        cases hsp : isSep (b.toNat : Int)
        · have hi' : ¬ 0 ≤ i := fun h => by rw [hi.1 h] at hsp; cases hsp
          clear hi
          have hno1 : NoSep (bts s) (pos + 1) := HN.out.more fun j c h1 h2 hc => by
            obtain rfl : j = pos := by omega
            rw [HG.out] at hc
            obtain rfl := Option.some.inj hc
            exact hsp
          have HN1 := hide hno1
          clear hno1
          go_wp2_with fail
          refine HR.out.mono ?_
          rintro e w' ⟨rfl, hw⟩
          obtain rfl := hw.symm
          clear hw
          go_wp2
          go_roundw
          case rel => exact ⟨pos + 1, hit1, HN1.out, hbel1⟩
          case measure => omega
        · have hi' : 0 ≤ i := hi.2 hsp
          clear hi
          go_wp2_with fail
          refine HR.out.mono ?_
          rintro e w' ⟨rfl, hw⟩
          obtain rfl := hw.symm
          clear hw
          go_wp2
          go_ret
          exact ⟨⟨pos, rfl, .inr ⟨pos, rfl, HN.out, _, HG.out, hsp⟩⟩, hbel1⟩
      · have hnx := fun ty => Lib.run_next_any_at (P := Try.prog) wr w.heap.size s pos ty hit hlt
        have hsep := decode_sep s pos hlt (by omega)
        obtain ⟨hr1, hr2⟩ := decode_high s pos hlt (by omega)
        have hr3 := decode_le s pos
        obtain ⟨r, hre⟩ : ∃ r, (Utf8.decode s pos).1 = r := ⟨_, rfl⟩
        obtain ⟨n, hne⟩ : ∃ n, (Utf8.decode s pos).2 = n := ⟨_, rfl⟩
        rw [hre] at hnx hr1 hr3
        rw [hne] at hnx hr2 hsep
        have HN1 := hide (HN.out.more hsep)
        clear hsep hre hne
        obtain ⟨W1, hW1⟩ : ∃ W1, wr.iterAt w.heap.size s (pos + n) = W1 := ⟨_, rfl⟩
        have hit1 : W1.heap[w.heap.size]? = some (.stringIter s (pos + n)) := by rw [← hW1]; exact Lib.iterAt_heap _ _ _ _ _ hit
        have hbel1 : Below w.heap.size w W1 := by rw [← hW1]; exact Lib.below_iterAt hbel (Nat.le_refl _) _ _
        rw [hW1] at hnx
        clear hW1
        have hr : Calls Try.prog 17 #[.string C, .int .i32 (r : Int)] W1 fun e w' => e = .returned (.int .i64 (-1)) ∧ Below W1.heap.size W1 w' := by
          rw [← hC.out]
          cases he : ((r : Int) == 65533)
          · exact rune_plain r W1 (by omega) (by omega) he
          · exact rune_error r W1 (by omega) he
        have HR := hide hr
        clear hr
        go_wp2_with fail
        refine HR.out.mono ?_
        rintro e w2 ⟨rfl, hb2⟩
        have hit2 : w2.heap[w.heap.size]? = some (.stringIter s (pos + n)) := by
          rw [hb2.block _ (Array.getElem?_eq_some_iff.1 hit1).1]
          exact hit1
        have hbel2 := hbel1.trans (hb2.mono hbel1.size)
        have hpos2 : w2.iterPos w.heap.size = pos + n := by simp [World.iterPos, hit2]
        clear hb2 hbel1 hit1
        go_wp2
        go_roundw
        case rel => exact ⟨pos + n, hit2, HN1.out, hbel2⟩
        case measure => omega
    · have hnx := fun ty => Lib.run_next_end_at (P := Try.prog) wr w.heap.size s pos ty hit hlt
      go_wp2
      go_ret
      exact ⟨⟨-1, rfl, .inl ⟨rfl, fun j c hj hc => HN.out j c (by rw [bts_length] at hj; omega) hc⟩⟩, hbel⟩

theorem first_sep (L : List Int) : ∀ n, NoSep L n ∨ ∃ k : Nat, NoSep L k ∧ ∃ c, L[k]? = some c ∧ isSep c = true
  | 0 => .inl (NoSep.zero L)
  | n + 1 => by
    rcases first_sep L n with h | h
    · by_cases hs : ∃ c, L[n]? = some c ∧ isSep c = true
      · exact .inr ⟨n, h, hs⟩
      · refine .inl (h.more fun j c h1 h2 hc => ?_)
        obtain rfl : j = n := by omega
        cases hi : isSep c
        · rfl
        · exact absurd ⟨c, hc, hi⟩ hs
    · exact .inr h
theorem data_get (s : ByteArray) (j : Nat) (b : UInt8) (h : s.data.toList[j]? = some b) : (bts s)[j]? = some (b.toNat : Int) := by
  simp only [bts, List.getElem?_map, h, Option.map_some]
theorem NoSep.any {s : ByteArray} {k : Nat} (h : NoSep (bts s) k) : Lib.NoAny s.data.toList CH.data.toList k := fun j b hj hb => by
  rw [sep_byte]
  exact h j _ hj (data_get s j b hb)
theorem sepAt_indexAny (s : ByteArray) : SepAt (bts s) (Lib.indexAny s.data.toList CH.data.toList) := by
  rcases first_sep (bts s) (bts s).length with h | ⟨k, hn, c, hc, hs⟩
  · refine .inl ⟨Lib.indexAny_none ?_, h⟩
    have := h.any
    rw [bts_length] at this
    rw [Array.length_toList]
    exact this
  · refine .inr ⟨k, ?_, hn, c, hc, hs⟩
    have hk : k < s.size := by
      have := (List.getElem?_eq_some_iff.1 hc).1
      rwa [bts_length] at this
    rw [bts_get s k hk] at hc
    obtain rfl := Option.some.inj hc
    exact Lib.indexAny_hit hn.any (Lib.data_getElem? s k hk) (by rw [sep_byte]; exact hs)

theorem any_all (s : ByteArray) (w : World) (hs : s.size ≤ 1048576) :
    Calls Try.prog 13 #[.string s, .string CH] w fun e w' => RetSep e (bts s) ∧ Below w.heap.size w w' := by
  by_cases h8 : s.size ≤ 8
  · exact any_short s w h8
  · refine (Try.strings_IndexAny_long s CH w (by decide) (by omega) (by omega) (by decide) ?_).mono ?_
    · intro j b hb
      have hj : j < CH.size := (List.getElem?_eq_some_iff.1 hb).1
      have := ch_low j hj
      have e := Lib.data_getElem? CH j hj
      rw [hb] at e
      rw [Option.some.inj e]
      exact this
    · rintro e w' ⟨rfl, rfl⟩
      exact ⟨⟨_, rfl, sepAt_indexAny s⟩, ((Below.refl _ _).alloc (Nat.le_refl _) _).alloc (by simp) _⟩
end Go.Proofs.Qxb6601314a
