/-
  paramValue at a text that opens with no quote.
-/
import Derived.Test.Qxb6601314aAny
import Derived.Test.Qxb6601314aRound
namespace Go.Proofs.Qxb6601314a
open Go.RowKit

/-- The text is parted at k, ahead of its first separator. -/
def Parted (t v r : ByteArray) (k : Nat) : Prop :=
  k ≤ t.size ∧ v = t.extract 0 k ∧ r = t.extract k t.size ∧ NoSep (bts t) k ∧ (k = t.size ∨ ∃ c, (bts t)[k]? = some c ∧ isSep c = true)
def RetParted (e : Ending) (t : ByteArray) : Prop := ∃ (v r : ByteArray) (k : Nat), e = .returned (.tuple #[.string v, .string r]) ∧ Parted t v r k

set_option maxRecDepth 100000 in
set_option maxHeartbeats 1000000 in
theorem plain_any (t : ByteArray) (w : World) (ht : t.size ≤ 1048576) (hq : quoteB (bts t) = false) :
    Calls Try.prog 11 #[.string t] w fun e w' => RetParted e t ∧ Below w.heap.size w w' := by
  have HH := hide (has_quote t w)
  rw [hq] at HH
  have HA := hide (any_all t w ht)
  clear hq
  go_enter Try.func11, Try.ntmps11
  go_wp2_with fail
  refine HH.out.mono ?_
  rintro e w' ⟨rfl, hw⟩
  obtain rfl := hw.symm
  clear hw HH
  go_wp2_with fail
  refine HA.out.mono ?_
  rintro e w1 ⟨⟨i, rfl, hi⟩, hb⟩
  rcases hi with ⟨rfl, hno⟩ | ⟨k, rfl, hno, c, hc, hs⟩
  · have HN := hide hno
    clear hno
    go_wp2
    go_ret2
    refine ⟨⟨t, ⟨#[]⟩, t.size, rfl, Nat.le_refl _, ?_, ?_, by rw [← bts_length]; exact HN.out, .inl rfl⟩, hb⟩
    · exact (ByteArray.extract_zero_size).symm
    · exact bts_inj (by rw [bts_drop, List.drop_eq_nil_of_le (by rw [bts_length]; exact Nat.le_refl _)]; rfl)
  · have HN := hide hno
    have HC := hide hc
    have hk : k < t.size := by
      have := (List.getElem?_eq_some_iff.1 hc).1
      rwa [bts_length] at this
    have hk1 : (k : Int) ≤ (t.size : Int) := by omega
    have hk2 : (0 : Int) ≤ (k : Int) := by omega
    clear hno hc
    go_wp2
    go_region
    all_goals go_wp2
    all_goals
      go_ret2
      exact ⟨⟨_, _, k, rfl, by omega, rfl, rfl, HN.out, .inr ⟨c, HC.out, hs⟩⟩, hb.drew⟩

set_option maxHeartbeats 400000 in
theorem zzPlain_any (t : ByteArray) (w : World) (ht : t.size ≤ 1048576) (hq : quoteB (bts t) = false) :
    Calls Try.prog 6 #[.string t] w fun e w' => RetParted e t ∧ Below w.heap.size w w' := by
  have H := hide (plain_any t w ht hq)
  go_enter Try.func6, Try.ntmps6
  go_wp2_with fail
  refine H.out.mono ?_
  rintro e w' ⟨⟨v, r, k, rfl, hp⟩, hb⟩
  have HP := hide hp
  clear hp H
  go_wp2
  go_ret2
  exact ⟨⟨v, r, k, rfl, HP.out⟩, hb⟩
end Go.Proofs.Qxb6601314a
