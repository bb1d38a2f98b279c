/-
  zzModelNormalizeName: the model's answer is the normal form.
-/
import Derived.Test.Qxb6601275aKit
import Derived.Deep.DeepCutAuto
namespace Go.Proofs.Qxb6601275a
open Go.RowKit

def RetStr (e : Ending) (T : List Int) : Prop := ∃ v : ByteArray, e = .returned (.string v) ∧ bts v = T
theorem val_bool {a b : Bool} (h : a = b) : Value.bool a = .bool b := by rw [h]
def pairB (L : List Int) (k : Nat) : Bool := (L[k]? == some 46) && (L[k + 1]? == some 47)
theorem pair_short {s : ByteArray} {k : Nat} (h : ¬ k + 1 < s.size) : pairB (bts s) k = false := by
  have : (bts s)[k + 1]? = none := List.getElem?_eq_none (by rw [bts_length]; omega)
  simp [pairB, this]
theorem pair_bytes {s : ByteArray} {k : Nat} (h0 : k < s.size) (h : k + 1 < s.size) : pairB (bts s) k = ((((s[k]'h0).toNat : Int) == 46) && (((s[k + 1]'h).toNat : Int) == 47)) := by
  unfold pairB
  rw [bts_get s k h0, bts_get s (k + 1) h]
  rfl
theorem pair_yes {L : List Int} {k : Nat} (h : pairB L k = true) : L[k]? = some 46 ∧ L[k + 1]? = some 47 := by simpa [pairB] using h
theorem pair_no {L : List Int} {k : Nat} (h : pairB L k = false) : ¬ (L[k]? = some 46 ∧ L[k + 1]? = some 47) := fun ⟨a, b⟩ => by simp [pairB, a, b] at h
def slashB (L : List Int) (k : Nat) : Bool := L[k]? == some 47
theorem slash_short {s : ByteArray} {k : Nat} (h : ¬ k < s.size) : slashB (bts s) k = false := by
  have : (bts s)[k]? = none := List.getElem?_eq_none (by rw [bts_length]; omega)
  simp [slashB, this]
theorem slash_byte {s : ByteArray} {k : Nat} (h : k < s.size) : slashB (bts s) k = (((s[k]'h).toNat : Int) == 47) := by
  unfold slashB; rw [bts_get s k h]; rfl
theorem pref_drop_yes {L : List Int} {k : Nat} (h : slashB L k = true) : pref (L.drop k) = [47] := by
  simp [slashB] at h
  simp [pref, h]
theorem pref_drop_no {L : List Int} {k : Nat} (h : slashB L k = false) : pref (L.drop k) = [] := by
  simp [slashB] at h
  simp [pref, h]
def endB (L : List Int) (j : Nat) : Bool := decide (j = L.length) || slashB L j

/-- The loop's state. -/
def ZSt (s : ByteArray) (S : List Int) (B : Nat) (w wr : World) (v : Value) (m start j : Nat) : Prop :=
  ∃ st, ZRel (bts s) S st start j ∧ (m = 0 ↔ st = none) ∧ m ≤ start ∧ Own B wr v (st.getD (pref S)) ∧ BytesL (st.getD (pref S)) ∧ (st.getD (pref S)).length ≤ start + 1 ∧ Below B w wr

theorem bytes_pref (S : List Int) : BytesL (pref S) := by
  unfold pref
  split
  · exact BytesL.cons (by omega) BytesL.nil
  · exact BytesL.nil
theorem pref_len (S : List Int) : (pref S).length ≤ 1 := by unfold pref; split <;> simp
theorem ZSt.start {s : ByteArray} {B i : Nat} {w wr : World} {v : Value} (hi : i ≤ s.size) (ho : Own B wr v (pref ((bts s).drop i))) (hb : Below B w wr) : ZSt s ((bts s).drop i) B w wr v 0 i i :=
  ⟨none, ZRel.start _ _ (by rw [bts_length]; exact hi), by simp, Nat.zero_le _, ho, bytes_pref _, by have := pref_len ((bts s).drop i); simp only [Option.getD_none]; omega, hb⟩
theorem ZSt.plain {s : ByteArray} {S : List Int} {B m a j : Nat} {w wr : World} {v : Value} (h : ZSt s S B w wr v m a j) (hj : j < s.size) (hn : endB (bts s) j = false) : ZSt s S B w wr v m a (j + 1) := by
  obtain ⟨st, hz, r⟩ := h
  refine ⟨st, hz.plain (bts_get s j hj) fun e => ?_, r⟩
  simp [endB, slash_byte hj, e] at hn
theorem ZSt.end {s : ByteArray} {S : List Int} {B m a j : Nat} {w wr : World} {v : Value} (h : ZSt s S B w wr v m a j) (hj : j ≤ s.size) (hn : endB (bts s) j = true) :
    a ≤ j ∧ m ≤ a ∧ Below B w wr ∧ (dropped (seg (bts s) a j) = true → ZSt s S B w wr v m (j + 1) (j + 1)) ∧
    (dropped (seg (bts s) a j) = false → ∃ T, Own B wr v T ∧ T.length ≤ a + 1 ∧
      (m = 0 → ∀ v' w', Own B w' v' (T ++ seg (bts s) a j) → Below B w w' → ZSt s S B w w' v' (m + 1) (j + 1) (j + 1)) ∧
      (m ≠ 0 → ∀ v' w', Own B w' v' (T ++ 47 :: seg (bts s) a j) → Below B w w' → ZSt s S B w w' v' (m + 1) (j + 1) (j + 1))) := by
  obtain ⟨st, hz, hm, hml, ho, hby, hl, hb⟩ := h
  have hc : j = (bts s).length ∨ (bts s)[j]? = some 47 := by simpa [endB, slashB] using hn
  obtain ⟨haj, hz'⟩ := hz.slash (by rw [bts_length]; exact hj) hc
  have hsl : (seg (bts s) a j).length = j - a := seg_length (by rw [bts_length]; exact hj)
  have hbs : BytesL (seg (bts s) a j) := (bytes_bts s).seg _ _
  refine ⟨haj, hml, hb, fun hd => ?_, fun hd => ⟨_, ho, hl, fun h0 v' w' ho' hb' => ?_, fun h0 v' w' ho' hb' => ?_⟩⟩
  · rw [push_drop (dropped_iff.1 hd)] at hz'
    exact ⟨st, hz', hm, by omega, ho, hby, by omega, hb⟩
  · obtain rfl := hm.1 h0
    rw [push_none (dropped_no hd)] at hz'
    refine ⟨_, hz', by simp, by omega, ho', hby.append hbs, ?_, hb'⟩
    simp only [Option.getD_some, Option.getD_none, List.length_append] at hl ⊢
    omega
  · cases st with
    | none => exact absurd (hm.2 rfl) h0
    | some R =>
      rw [push_some (dropped_no hd)] at hz'
      refine ⟨_, hz', by simp, by omega, ?_, ?_, ?_, hb'⟩
      · simp only [Option.getD_some]
        exact ho'
      · simp only [Option.getD_some]
        exact hby.append (BytesL.cons (by omega) hbs)
      · simp only [Option.getD_some, List.length_append, List.length_cons] at hl ⊢
        omega
theorem ZSt.done {s : ByteArray} {S : List Int} {B m a j : Nat} {w wr : World} {v : Value} (h : ZSt s S B w wr v m a j) (hj : ¬ j ≤ s.size) :
    Own B wr v ((fin S).getD (pref S)) ∧ BytesL ((fin S).getD (pref S)) ∧ Below B w wr := by
  obtain ⟨st, hz, _, _, ho, hby, _, hb⟩ := h
  rw [hz.done (by rw [bts_length]; exact hj)] at ho hby
  exact ⟨ho, hby, hb⟩
theorem ext_size {s : ByteArray} {a j : Nat} (hj : j ≤ s.size) : (s.extract a j).size = j - a := by
  rw [← bts_length, bts_extract, seg_length (by rw [bts_length]; exact hj)]
theorem dropped_zero {l : List Int} (h : l.length = 0) : dropped l = true := by simp [dropped, List.eq_nil_of_length_eq_zero h]
theorem dropped_long {l : List Int} (h : 1 < l.length) : dropped l = false := by
  simp only [dropped, decide_eq_false_iff_not]
  rintro (rfl | rfl) <;> simp at h
theorem dropped_one {t : ByteArray} (h : t.size = 1) (h0 : 0 < t.size) : dropped (bts t) = (((t[0]'h0).toNat : Int) == 46) := by
  have hl : (bts t).length = 1 := by rw [bts_length]; exact h
  have hg := bts_get t 0 h0
  obtain ⟨c, hc⟩ := List.length_eq_one_iff.1 hl
  rw [hc] at hg ⊢
  simp at hg
  subst hg
  simp [dropped]
  rfl

set_option maxRecDepth 100000 in
set_option maxHeartbeats 1000000 in
theorem zz_any (s : ByteArray) (w : World) (hs : s.size ≤ 1048576) :
    Calls Try.prog 10 #[.string s] w fun e w' => RetStr e (norm (bts s)) ∧ Below w.heap.size w w' := by
  go_enter Try.func10, Try.ntmps10
  go_wp2
  go_loop [3] (fun i => ∃ k : Nat, k ≤ s.size ∧ i = .int .i64 k ∧ strip ((bts s).drop k) = strip (bts s)) (fun i => s.size - (intOf i).toNat)
  case atStart => exact ⟨0, Nat.zero_le _, rfl, rfl⟩
  case round =>
    obtain ⟨k, hk, rfl, hst⟩ := hrel
    have HST := hide hst
    clear hst
    go_upto_region 2 with fail
    go_cut [28] (fun c wx => c = .bool (pairB (bts s) k) ∧ wx = w)
    case first =>
      by_cases hlt : k + 1 < s.size
      · have hlt0 : k < s.size := by omega
        have HP := hide (pair_bytes hlt0 hlt)
        cases h46 : (((s[k]'hlt0).toNat : Int) == 46)
        · go_wp2
          go_meet
          case rel => exact ⟨val_bool (by rw [HP.out, h46]; rfl), rfl⟩
        · cases h47 : (((s[k + 1]'hlt).toNat : Int) == 47)
          · go_wp2
            go_meet
            case rel => exact ⟨val_bool (by rw [HP.out, h46, h47]; rfl), rfl⟩
          · go_wp2
            go_meet
            case rel => exact ⟨val_bool (by rw [HP.out, h46, h47]; rfl), rfl⟩
      · have HP := hide (pair_short hlt)
        go_wp2
        go_meet
        case rel => exact ⟨val_bool HP.out.symm, rfl⟩
    case rest =>
      obtain ⟨rfl, hw⟩ := hcut
      obtain rfl := hw.symm
      clear hw
      cases hp : pairB (bts s) k
      · have HS := hide (HST.out.symm.trans (strip_stop (pair_no hp)))
        clear HST
        go_upto_region 4 with fail
        go_cut [4] (fun c wx => c = .bool (slashB (bts s) k) ∧ wx = w)
        case first =>
          by_cases hlt : k < s.size
          · have HP := hide (slash_byte hlt)
            go_wp2
            go_meet
            case rel => exact ⟨val_bool HP.out.symm, rfl⟩
          · have HP := hide (slash_short hlt)
            go_wp2
            go_meet
            case rel => exact ⟨val_bool HP.out.symm, rfl⟩
        case rest =>
          obtain ⟨rfl, hw⟩ := hcut
          obtain rfl := hw.symm
          clear hw
          obtain ⟨i0, hi, iz0, iz1, iz2⟩ := info_parts Try.info5
          go_wp2_with (at_make; refine wpList_make_own _ rfl _ _ 39 rfl w.heap.size 5 i0 (.int .u8 0) 1 Try.underlying39 hi iz0 iz1 .i64 .i64 _ (s.size + 1) rfl rfl ?c1 ?c2 ?c3 (Nat.le_refl _) ?_)
          case c2 => omega
          case c3 => unfold maxLen; omega
          intro w4 ho4 hg4
          have hb4 : Below w.heap.size w w4 := (Below.refl _ _).grown hg4 (Nat.le_refl _) (fun k hk => by cases hk)
          have ho : Own w.heap.size w4 (.slice (some ⟨w.heap.size, 0, none⟩) 0 (s.size + 1)) [] := ho4
          have hs4 := hb4.size
          clear ho4 hg4 hi iz0 iz1 iz2
          go_upto_if 45 with fail
          go_cut [4, 5] (fun _ v wx => Own w.heap.size wx v (pref ((bts s).drop k)) ∧ Below w.heap.size w wx)
          case first =>
            cases hsl : slashB (bts s) k
            · have HP := hide (pref_drop_no hsl)
              go_wp2
              go_meet
              case rel => exact ⟨by rw [HP.out]; exact ho, hb4⟩
            · have HP := hide (pref_drop_yes hsl)
              go_wp2_with (at_builtin; refine wpList_app1 rfl (.tmp 46) (.tmp 47) rfl w.heap.size _ 47 _ _ rfl _ rfl rfl ho hs4 (by simp) ?_)
              intro v5 w5 ho5 hb5
              go_wp2
              go_meet
              case rel => exact ⟨by rw [HP.out]; exact ho5, hb4.trans hb5⟩
          case rest =>
            obtain ⟨hown, hbel⟩ := hcut
            have hst := ZSt.start hk hown hbel
            clear hown hbel hb4 ho hs4
            go_wp2
            go_loopw [5, 6, 7, 8] (fun v mv av jv wr => ∃ m a j : Nat, j ≤ s.size + 1 ∧ a ≤ s.size + 1 ∧ mv = .int .i64 m ∧ av = .int .i64 a ∧ jv = .int .i64 j ∧ ZSt s ((bts s).drop k) w.heap.size w wr v m a j) (fun _ _ _ jv _ => s.size + 1 - (intOf jv).toNat)
            case atStart => exact ⟨0, k, k, by omega, by omega, rfl, rfl, rfl, hst⟩
            case round =>
              clear hst
              obtain ⟨m, a, j, hj1, ha1, rfl, rfl, rfl, hst⟩ := hrel
              by_cases hj : j ≤ s.size
              · have HST := hide hst
                clear hst
                go_upto_region 13 with fail
                go_cut [66] (fun c wx => c = .bool (endB (bts s) j) ∧ wx = wr)
                case first =>
                  by_cases hlt : j < s.size
                  · have HP : Hid (endB (bts s) j = (((s[j]'hlt).toNat : Int) == 47)) := by
                      unfold endB
                      rw [slash_byte hlt, bts_length, decide_eq_false (by omega), Bool.false_or]
                      exact hide rfl
                    have hjb : ((j : Int) == (s.size : Int)) = false := beq_eq_false_iff_ne.2 (by omega)
                    go_wp2
                    go_meet
                    case rel => exact ⟨val_bool (by rw [HP.out]), rfl⟩
                  · obtain rfl : j = s.size := by omega
                    have HP : Hid (endB (bts s) s.size = true) := by
                      unfold endB
                      rw [bts_length, decide_eq_true rfl, Bool.true_or]
                      exact hide rfl
                    go_wp2
                    go_meet
                    case rel => exact ⟨val_bool HP.out.symm, rfl⟩
                case rest =>
                  obtain ⟨rfl, hw⟩ := hcut
                  obtain rfl := hw.symm
                  clear hw
                  cases he : endB (bts s) j
                  · have hlt : j < s.size := by
                      rcases Nat.lt_or_ge j s.size with h | h
                      · exact h
                      · exfalso
                        unfold endB at he
                        rw [bts_length, decide_eq_true (by omega), Bool.true_or] at he
                        cases he
                    have hst' := hide (HST.out.plain hlt he)
                    go_wp2
                    go_roundw
                    case rel => exact ⟨m, a, j + 1, by omega, by omega, rfl, rfl, by go_num, hst'.out⟩
                    case measure => simp [intOf]; omega
                  · obtain ⟨haj, hma, hbel, hdrop, hkeep⟩ := HST.out.end hj he
                    have HD := hide hdrop
                    have HK := hide hkeep
                    have hes := ext_size (s := s) (a := a) hj
                    have HE := hide (bts_extract s a j)
                    clear hdrop hkeep HST
                    have hbs := hbel.size
                    go_upto_region 15 with fail
                    go_cut [10] (fun c wx => c = .bool (dropped (seg (bts s) a j)) ∧ wx = wr)
                    case first =>
                      by_cases h0 : j - a = 0
                      · have HP : Hid (dropped (seg (bts s) a j) = true) := by
                          rw [← HE.out]
                          exact dropped_zero (by rw [bts_length]; omega)
                        go_wp2
                        go_meet
                        case rel => exact ⟨val_bool HP.out.symm, rfl⟩
                      · by_cases h1 : j - a = 1
                        · have hz1 : (s.extract a j).size = 1 := by omega
                          have hz0 : 0 < (s.extract a j).size := by omega
                          have HP : Hid (dropped (seg (bts s) a j) = ((((s.extract a j)[0]'hz0).toNat : Int) == 46)) := by
                            rw [← HE.out]
                            exact dropped_one hz1 hz0
                          go_wp2
                          go_meet
                          case rel => exact ⟨val_bool HP.out.symm, rfl⟩
                        · have HP : Hid (dropped (seg (bts s) a j) = false) := by
                            rw [← HE.out]
                            exact dropped_long (by rw [bts_length]; omega)
                          go_wp2
                          go_meet
                          case rel => exact ⟨val_bool (by rw [HP.out]; simp; omega), rfl⟩
                    case rest =>
                      obtain ⟨rfl, hw⟩ := hcut
                      obtain rfl := hw.symm
                      clear hw
                      cases hd : dropped (seg (bts s) a j)
                      · obtain ⟨T, hT, hTl, k0, k1⟩ := HK.out hd
                        have K0 := hide k0
                        have K1 := hide k1
                        clear k0 k1 HK HD
                        by_cases hm : m = 0
                        · have K := hide (K0.out hm)
                          clear K0 K1
                          go_wp2_with (at_builtin; refine wpList_appS rfl (.tmp 91) (.tmp 92) rfl w.heap.size _ (s.extract a j) _ _ rfl rfl hT hbs (by omega) ?_)
                          intro v2 w2 ho2 hb2
                          rw [HE.out] at ho2
                          have hst' := hide (K.out v2 w2 ho2 (hbel.trans hb2))
                          go_wp2
                          go_roundw
                          case rel => exact ⟨m + 1, j + 1, j + 1, by omega, by omega, by go_num, by go_num, by go_num, hst'.out⟩
                          case measure => simp [intOf]; omega
                        · have K := hide (K1.out hm)
                          clear K0 K1
                          go_wp2_with (at_builtin; refine wpList_app1 rfl (.tmp 88) (.tmp 89) rfl w.heap.size _ 47 _ _ rfl _ rfl rfl hT hbs (by omega) ?_)
                          intro v1 w1 ho1 hb1
                          have hs1 := hb1.size
                          have hl1 : (T ++ [47]).length = T.length + 1 := by simp
                          go_wp2_with (at_builtin; refine wpList_appS rfl (.tmp 91) (.tmp 92) rfl w.heap.size _ (s.extract a j) _ _ rfl rfl ho1 (by omega) (by omega) ?_)
                          intro v2 w2 ho2 hb2
                          rw [HE.out] at ho2
                          have hst' := hide (K.out v2 w2 (by exact ho2) ((hbel.trans hb1).trans hb2))
                          go_wp2
                          go_roundw
                          case rel => exact ⟨m + 1, j + 1, j + 1, by omega, by omega, by go_num, by go_num, by go_num, hst'.out⟩
                          case measure => simp [intOf]; omega
                      · have hst' := hide (HD.out hd)
                        go_wp2
                        go_roundw
                        case rel => exact ⟨m, j + 1, j + 1, by omega, by omega, rfl, by go_num, by go_num, hst'.out⟩
                        case measure => simp [intOf]; omega
              · obtain ⟨ho, hby, hbel⟩ := hst.done hj
                obtain ⟨ao, cap, tx, rfl, hconv, htx⟩ := ho.conv hby
                clear hst
                go_wp2_with (rw [hconv])
                go_ret
                exact ⟨⟨tx, rfl, by rw [htx, norm, HS.out]⟩, hbel⟩
      · have HS := hide (HST.out.symm.trans (strip_drop (pair_yes hp).1 (pair_yes hp).2))
        have hk2 : k + 2 ≤ s.size := by
          have := (List.getElem?_eq_some_iff.1 (pair_yes hp).2).1
          rw [bts_length] at this
          omega
        go_wp2
        go_round
        case rel => exact ⟨k + 2, hk2, by go_num, HS.out.symm⟩
        case measure => simp [intOf]; omega
end Go.Proofs.Qxb6601275a
