/-
  FnParamValueSpec: the walk.
-/
import Derived.Test.Qxb6601314aPlainV
import Derived.Test.Qxb6601314aModel
namespace Go.Proofs.Qxb6601314a
open Go.RowKit

set_option maxHeartbeats 400000 in
theorem zzBytes5_any (s : ByteArray) (w : World) : Calls Try.prog 5 #[.string s] w fun e w' => RetBool e ∧ w' = w := by
  go_enter Try.func5, Try.ntmps5
  go_wp2
  all_goals
    go_ret
    exact ⟨⟨_, rfl⟩, rfl⟩
set_option maxHeartbeats 400000 in
theorem sep_any (c : Int) (w : World) : Calls Try.prog 8 #[.int .u8 c] w fun e w' => e = .returned (.bool (isSep c)) ∧ w' = w := by
  cases h32 : (c == 32)
  · cases h9 : (c == 9)
    · go_enter Try.func8, Try.ntmps8
      go_wp2
      go_ret
      exact ⟨ret_bool (by rw [isSep, h32, h9]; rfl), rfl⟩
    · go_enter Try.func8, Try.ntmps8
      go_wp2
      go_ret
      exact ⟨ret_bool (by rw [isSep, h32, h9]; rfl), rfl⟩
  · go_enter Try.func8, Try.ntmps8
    go_wp2
    go_ret
    exact ⟨ret_bool (by rw [isSep, h32]; rfl), rfl⟩

theorem quote_byte {t : ByteArray} (h : 0 < t.size) : quoteB (bts t) = (((t[0]'h).toNat : Int) == 34) := by
  unfold quoteB; rw [bts_get t 0 h]; rfl
theorem quote_short {t : ByteArray} (h : ¬ 0 < t.size) : quoteB (bts t) = false := by
  have : (bts t)[0]? = none := List.getElem?_eq_none (by rw [bts_length]; omega)
  simp [quoteB, this]
theorem bts_front (t : ByteArray) (k : Nat) : bts (t.extract 0 k) = (bts t).take k := by
  have e : (t.extract 0 k).data = t.data.extract 0 k := by simp
  simp only [bts, e]
  rw [Array.toList_extract, List.extract_eq_take_drop, List.map_take, List.map_drop]
  simp

set_option maxRecDepth 100000 in
set_option maxHeartbeats 1000000 in
theorem spec_any (t : ByteArray) (w : World) : Calls Try.prog 3 #[.string t] w fun e w' => e = .returned (.bool true) ∧ Below w.heap.size w w' := by
  have HZ := hide (zzBytes5_any t w)
  by_cases hs : t.size ≤ 1048576
  · cases hq : quoteB (bts t)
    · have HP := hide (zzPlain_any t w hs hq)
      go_enter Try.func3, Try.ntmps3
      go_wp2_with fail
      refine HZ.out.mono ?_
      rintro e w' ⟨⟨b, rfl⟩, hw⟩
      obtain rfl := hw.symm
      clear hw HZ
      cases b
      · go_wp2
        go_ret
        exact ⟨rfl, Below.refl _ _⟩
      · go_wp2_with fail
        refine HP.out.mono ?_
        rintro e w1 ⟨⟨v, r, k, rfl, hk, hv, hr, hno, hend⟩, hb⟩
        have hvb : bts v = (bts t).take k := by rw [hv, bts_front]
        have hrb : bts r = (bts t).drop k := by rw [hr, bts_drop]
        have hvs : v.size = k := by rw [← bts_length, hvb, List.length_take, bts_length]; omega
        have hrs : r.size = t.size - k := by rw [← bts_length, hrb, List.length_drop, bts_length]
        have HV := hide hv
        have HR := hide hr
        have HN := hide hno
        have HE := hide hend
        have HVB := hide hvb
        have HRB := hide hrb
        clear hv hr hno hend hvb hrb HP
        go_upto_region 6 with fail
        go_cut [26] (fun c wx => c = .bool false ∧ wx = w1)
        case first =>
          by_cases hpos : 0 < t.size
          · have hb34 : (((t[0]'hpos).toNat : Int) == 34) = false := by rw [← quote_byte hpos]; exact hq
            go_wp2
            go_meet
            case rel => exact ⟨rfl, rfl⟩
          · go_wp2
            go_meet
            case rel => exact ⟨rfl, rfl⟩
        case rest =>
          obtain ⟨rfl, hw⟩ := hcut
          obtain rfl := hw.symm
          clear hw
          have hveq : t.extract 0 k = v := HV.out.symm
          have hreq : t.extract k t.size = r := HR.out.symm
          obtain ⟨q, hq'⟩ : ∃ q : Nat, t.size - k = q := ⟨_, rfl⟩
          rw [hq'] at hrs
          have hk9 : decide (t.size < k) = false := decide_eq_false (by omega)
          have hk10 : ((q : Int) == (t.size : Int) - (k : Int)) = true := beq_iff_eq.2 (by omega)
          have HQ := hide hq'
          clear hq'
          go_upto_region 9 with fail
          go_cut [54] (fun c wx => c = .bool false ∧ wx = w1)
          case first =>
            go_wp2
            go_meet
            case rel => exact ⟨val_bool (by rw [bne, hk10]; rfl), rfl⟩
          case rest =>
            obtain ⟨rfl, hw⟩ := hcut
            obtain rfl := hw.symm
            clear hw hk9 hk10
            go_upto_region 11 with fail
            go_cut [68] (fun c wx => c = .bool false ∧ wx = w1)
            case first =>
              go_wp2
              go_meet
              case rel => exact ⟨rfl, rfl⟩
            case rest =>
              obtain ⟨rfl, hw⟩ := hcut
              obtain rfl := hw.symm
              clear hw hveq hreq
              go_wp2
              go_loop [7] (fun iv => ∃ i : Nat, i ≤ k ∧ iv = .int .i64 i) (fun iv => k - (intOf iv).toNat)
              case atStart => exact ⟨0, Nat.zero_le _, rfl⟩
              case round =>
                obtain ⟨i, hi, rfl⟩ := hrel
                by_cases hlt : i < k
                · have hiv : i < v.size := by omega
                  have hs0 : isSep ((v[i]'hiv).toNat : Int) = false := by
                    refine HN.out i _ hlt ?_
                    have := bts_get v i hiv
                    rw [HVB.out, List.getElem?_take, if_pos hlt] at this
                    exact this
                  have HS := sep_any ((v[i]'hiv).toNat : Int) w1
                  rw [hs0] at HS
                  have HS := hide HS
                  go_wp2_with fail
                  refine HS.out.mono ?_
                  rintro e w' ⟨rfl, hw⟩
                  obtain rfl := hw.symm
                  clear hw
                  go_wp2
                  go_round
                  case rel => exact ⟨i + 1, by omega, by go_num⟩
                  case measure => simp [intOf]; omega
                · have hemp : r.toList.isEmpty = decide (q = 0) := by
                    rw [Lib.toList_data]
                    have hl : r.data.toList.length = q := by rw [Array.length_toList]; exact hrs
                    cases hd : r.data.toList with
                    | nil => rw [hd] at hl; simp at hl; simp [← hl]
                    | cons a b => rw [hd] at hl; simp at hl; simp [← hl]
                  by_cases hq0 : q = 0
                  · have hemp' : r.toList.isEmpty = true := by rw [hemp]; exact decide_eq_true hq0
                    clear hemp
                    go_wp2
                    go_ret
                    exact ⟨rfl, hb⟩
                  · have hemp' : r.toList.isEmpty = false := by rw [hemp]; exact decide_eq_false hq0
                    clear hemp
                    have hr0 : 0 < r.size := by omega
                    have hs1 : isSep ((r[0]'hr0).toNat : Int) = true := by
                      rcases HE.out with h | ⟨c, hc, hc2⟩
                      · have := HQ.out; omega
                      · have := bts_get r 0 hr0
                        rw [HRB.out, List.getElem?_drop, Nat.add_zero, hc] at this
                        rw [← Option.some.inj this]
                        exact hc2
                    have HS := sep_any ((r[0]'hr0).toNat : Int) w1
                    rw [hs1] at HS
                    have HS := hide HS
                    go_wp2_with fail
                    refine HS.out.mono ?_
                    rintro e w' ⟨rfl, hw⟩
                    obtain rfl := hw.symm
                    clear hw
                    go_wp2
                    go_ret
                    exact ⟨rfl, hb⟩
    · have hpos : 0 < t.size := by
        rcases Nat.eq_zero_or_pos t.size with h | h
        · rw [quote_short (by omega)] at hq
          cases hq
        · exact h
      have hb34 : (((t[0]'hpos).toNat : Int) == 34) = true := by rw [← quote_byte hpos]; exact hq
      have HP := hide (zzQuoted_any t w (by omega) hq)
      clear hq
      go_enter Try.func3, Try.ntmps3
      go_wp2_with fail
      refine HZ.out.mono ?_
      rintro e w' ⟨⟨b, rfl⟩, hw⟩
      obtain rfl := hw.symm
      clear hw HZ
      cases b
      · go_wp2
        go_ret
        exact ⟨rfl, Below.refl _ _⟩
      · go_wp2_with fail
        refine HP.out.mono ?_
        rintro e w1 ⟨⟨v, r, rfl, hv, hr⟩, hb⟩
        have HV := hide hv
        have HR := hide hr
        clear hv hr HP
        go_wp2_with fail
        refine (model_any t w1 hs hpos).mono ?_
        rintro e w2 ⟨⟨v2, r2, rfl, hv, hr⟩, hb2⟩
        obtain rfl : v = v2 := bts_inj (HV.out.trans hv.symm)
        obtain rfl : r = r2 := bts_inj (HR.out.trans hr.symm)
        have hb' := hb.trans (hb2.mono hb.size)
        clear hv hr hb hb2 HV HR
        go_wp2
        go_ret
        exact ⟨rfl, hb'⟩
  · go_enter Try.func3, Try.ntmps3
    go_wp2_with fail
    refine HZ.out.mono ?_
    rintro e w' ⟨⟨b, rfl⟩, hw⟩
    obtain rfl := hw.symm
    clear hw
    cases b <;> (go_wp2; go_ret; exact ⟨rfl, Below.refl _ _⟩)
end Go.Proofs.Qxb6601314a
