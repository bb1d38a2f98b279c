/-
  FnParamValueQuoteRoundTrip: the walk.
-/
import Derived.Test.Qxb6601314aParam
namespace Go.Proofs.Qxb6601314a
open Go.RowKit

def RetBool (e : Ending) : Prop := ∃ b : Bool, e = .returned (.bool b)
set_option maxHeartbeats 400000 in
theorem zzBytes9_any (s r : ByteArray) (b : Bool) (w : World) : Calls Try.prog 9 #[.string s, .string r, .bool b] w fun e w' => RetBool e ∧ w' = w := by
  go_enter Try.func9, Try.ntmps9
  go_wp2
  all_goals
    go_ret
    exact ⟨⟨_, rfl⟩, rfl⟩

set_option maxHeartbeats 400000 in
theorem zzQuoted_any (t : ByteArray) (w : World) (ht : t.size ≤ 2097152) (hq : quoteB (bts t) = true) :
    Calls Try.prog 6 #[.string t] w fun e w' => RetTwo e (read ((bts t).drop 1) []) ∧ Below w.heap.size w w' := by
  have H := hide (quoted_any t w ht hq)
  go_enter Try.func6, Try.ntmps6
  go_wp2_with fail
  refine H.out.mono ?_
  rintro e w' ⟨⟨v, r, rfl, hv, hr⟩, hb⟩
  have HV := hide hv
  have HR := hide hr
  clear hv hr H
  go_wp2
  go_ret2
  exact ⟨⟨v, r, rfl, HV.out, HR.out⟩, hb⟩

set_option maxRecDepth 100000 in
set_option maxHeartbeats 1000000 in
theorem round_any (s r : ByteArray) (all : Bool) (w : World) : Calls Try.prog 4 #[.string s, .string r, .bool all] w fun e w' => e = .returned (.bool true) ∧ Below w.heap.size w w' := by
  have HZ := hide (zzBytes9_any s r all w)
  by_cases h0 : s.size ≤ 524288
  · by_cases h1 : r.size ≤ 524288
    · go_enter Try.func4, Try.ntmps4
      go_wp2_with fail
      refine HZ.out.mono ?_
      rintro e w' ⟨⟨b, rfl⟩, hw⟩
      obtain rfl := hw.symm
      clear hw
      cases b
      · go_wp2
        go_ret
        exact ⟨rfl, Below.refl _ _⟩
      · obtain ⟨i0, hi, iz0, iz1, iz2⟩ := info_parts Try.info5
        go_wp2_with (at_make; refine wpList_make_own _ rfl _ _ 27 rfl w.heap.size 5 i0 (.int .u8 0) 1 Try.underlying27 hi iz0 iz1 .i64 .i64 _ (2 * s.size + 2 + r.size) rfl rfl ?c1 ?c2 ?c3 (Nat.le_refl _) ?_)
        case c1 => omega
        case c2 => rw [iz2]; omega
        case c3 => unfold maxLen; omega
        intro w4 ho4 hg4
        have hb4 : Below w.heap.size w w4 := (Below.refl _ _).grown hg4 (Nat.le_refl _) (fun k hk => by cases hk)
        have ho : Own w.heap.size w4 (.slice (some ⟨w.heap.size, 0, none⟩) 0 (2 * s.size + 2 + r.size)) [] := ho4
        have hs4 := hb4.size
        clear ho4 hg4 hi iz0 iz1 iz2 HZ
        go_wp2_with fail
        refine (quote_any _ [] s all w.heap.size w4 h0 (by simp) ho hs4).mono ?_
        rintro e w5 ⟨⟨v5, rfl, ho5⟩, hb5⟩
        have hb5' := hb4.trans hb5
        have hs5 := hb5'.size
        have hel := esc_len all (bts s)
        rw [bts_length] at hel
        clear ho hb4 hb5 hs4
        go_wp2_with (at_builtin; refine wpList_appS rfl (.tmp 35) (.tmp 36) rfl w.heap.size _ r _ _ rfl rfl ho5 hs5 (by simp only [List.length_append, List.length_cons, List.length_nil]; omega) ?_)
        intro v6 w6 ho6 hb6
        have hb6' := hb5'.trans hb6
        have e : [] ++ 34 :: esc all (bts s) ++ [34] ++ bts r = 34 :: (esc all (bts s) ++ 34 :: bts r) := by simp
        have ho7 : Own w.heap.size w6 v6 (34 :: (esc all (bts s) ++ 34 :: bts r)) := by simpa using ho6
        clear ho6 ho5 hb6 hb5' e
        have hby : BytesL (34 :: (esc all (bts s) ++ 34 :: bts r)) := by
          have h34 : BytesL [34] := BytesL.one (by omega)
          exact h34.append ((bytes_esc (bytes_bts s)).append (h34.append (bytes_bts r)))
        obtain ⟨T, hT⟩ : ∃ T, Hid (34 :: (esc all (bts s) ++ 34 :: bts r) = T) := ⟨_, hide rfl⟩
        rw [hT.out] at ho7 hby
        obtain ⟨ao, cap, tx, rfl, hconv, htx0⟩ := ho7.conv hby
        have htx := htx0.trans hT.out.symm
        have hq : quoteB (bts tx) = true := by rw [htx]; rfl
        have hts : tx.size ≤ 2097152 := by rw [← bts_length, htx, List.length_cons, List.length_append, List.length_cons, bts_length]; omega
        have HQ := zzQuoted_any tx w6 hts hq
        rw [htx, List.drop_succ_cons, List.drop_zero, read_esc] at HQ
        have HQ := hide HQ
        clear hq hts hby htx htx0 ho7 hel hT
        go_wp2_with (rw [hconv])
        refine HQ.out.mono ?_
        rintro e w7 ⟨⟨v, x, rfl, hv, hx⟩, hb7⟩
        obtain rfl : s = v := bts_inj (by simpa using hv.symm)
        obtain rfl : r = x := bts_inj hx.symm
        have hb := hb6'.trans (hb7.mono hb6'.size)
        clear hv hx hb7 hb6'
        go_wp2
        go_ret
        exact ⟨rfl, hb⟩
    · go_enter Try.func4, Try.ntmps4
      go_wp2_with fail
      refine HZ.out.mono ?_
      rintro e w' ⟨⟨b, rfl⟩, hw⟩
      obtain rfl := hw.symm
      clear hw
      cases b <;> (go_wp2; go_ret; exact ⟨rfl, Below.refl _ _⟩)
  · go_enter Try.func4, Try.ntmps4
    go_wp2_with fail
    refine HZ.out.mono ?_
    rintro e w' ⟨⟨b, rfl⟩, hw⟩
    obtain rfl := hw.symm
    clear hw
    cases b <;> (go_wp2; go_ret; exact ⟨rfl, Below.refl _ _⟩)
end Go.Proofs.Qxb6601314a
