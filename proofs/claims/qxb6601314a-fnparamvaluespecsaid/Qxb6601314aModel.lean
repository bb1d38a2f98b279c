/-
  azkvB1QuotedModel: the run-length reader answers as 'read' says.
-/
import Derived.Test.Qxb6601314aParam
namespace Go.Proofs.Qxb6601314a
open Go.RowKit

theorem run_cons (k : Nat) (X : List Int) : List.replicate (k + 1) (92 : Int) ++ X = 92 :: (List.replicate k 92 ++ X) := by rw [List.replicate_succ]; rfl
/-- A run of k backslashes stands for k/2, and leaves k%2. -/
theorem read_run (X : List Int) : ∀ (k : Nat) (acc : List Int), read (List.replicate k 92 ++ X) acc = read (List.replicate (k % 2) 92 ++ X) (acc ++ List.replicate (k / 2) 92)
  | 0, acc => by simp
  | 1, acc => by simp
  | k + 2, acc => by
    rw [run_cons, run_cons, read_bs, read_run X k (acc ++ [92])]
    have e1 : (k + 2) % 2 = k % 2 := by omega
    have e2 : (k + 2) / 2 = k / 2 + 1 := by omega
    rw [e1, e2, List.append_assoc, List.replicate_succ]
    rfl
def bsB (L : List Int) (j : Nat) : Bool := L[j]? == some 92
theorem bs_byte {t : ByteArray} {j : Nat} (h : j < t.size) : bsB (bts t) j = (((t[j]'h).toNat : Int) == 92) := by
  unfold bsB; rw [bts_get t j h]; rfl
theorem bs_short {t : ByteArray} {j : Nat} (h : ¬ j < t.size) : bsB (bts t) j = false := by
  have : (bts t)[j]? = none := List.getElem?_eq_none (by rw [bts_length]; omega)
  simp [bsB, this]
theorem run_more {L : List Int} {i j : Nat} (h : L.drop i = List.replicate (j - i) 92 ++ L.drop j) (hij : i ≤ j) (hb : bsB L j = true) : L.drop i = List.replicate (j + 1 - i) 92 ++ L.drop (j + 1) := by
  have hc : L[j]? = some 92 := by simpa [bsB] using hb
  rw [drop_cons hc] at h
  rw [h, show j + 1 - i = (j - i) + 1 by omega, List.replicate_succ', List.append_assoc]
  rfl

/-- The outer loop's state. -/
def QSt (t : ByteArray) (B : Nat) (w wr : World) (v : Value) (i : Nat) : Prop :=
  ∃ T, Own B wr v T ∧ BytesL T ∧ T.length ≤ i ∧ read ((bts t).drop i) T = read ((bts t).drop 1) [] ∧ Below B w wr
theorem bytes_rep (m : Nat) : BytesL (List.replicate m 92) := fun z hz => by
  obtain ⟨_, rfl⟩ := List.mem_replicate.1 hz
  omega
theorem rep_len (T : List Int) (m : Nat) : (T ++ List.replicate m (92 : Int)).length = T.length + m := by simp

/-- Behind the run: the text's end; or a byte that is no backslash, at place j. -/
theorem after_end {t : ByteArray} {i j k : Nat} {T : List Int} (hrun : (bts t).drop i = List.replicate k 92 ++ (bts t).drop j) (hrd : read ((bts t).drop i) T = read ((bts t).drop 1) []) (he : j = t.size) :
    read ((bts t).drop 1) [] = (T ++ List.replicate (k / 2) 92, []) := by
  rw [← hrd, hrun, read_run, he, List.drop_eq_nil_of_le (by rw [bts_length]; exact Nat.le_refl _), List.append_nil]
  have : k % 2 = 0 ∨ k % 2 = 1 := by omega
  rcases this with h | h <;> rw [h]
  · exact read_nil _
  · exact read_lone _
theorem after_close {t : ByteArray} {i j k : Nat} {T : List Int} (hrun : (bts t).drop i = List.replicate k 92 ++ (bts t).drop j) (hrd : read ((bts t).drop i) T = read ((bts t).drop 1) []) (hc : (bts t)[j]? = some 34) (hev : k % 2 = 0) :
    read ((bts t).drop 1) [] = (T ++ List.replicate (k / 2) 92, (bts t).drop (j + 1)) := by
  rw [← hrd, hrun, read_run, hev, drop_cons hc]
  exact read_quote _ _
theorem after_byte {t : ByteArray} {i j k : Nat} {T : List Int} {c : Int} (hrun : (bts t).drop i = List.replicate k 92 ++ (bts t).drop j) (hrd : read ((bts t).drop i) T = read ((bts t).drop 1) []) (hc : (bts t)[j]? = some c) (h92 : c ≠ 92) (hno : ¬ (c = 34 ∧ k % 2 = 0)) :
    read ((bts t).drop (j + 1)) (T ++ List.replicate (k / 2) 92 ++ [c]) = read ((bts t).drop 1) [] := by
  rw [← hrd, hrun, read_run, drop_cons hc]
  have : k % 2 = 0 ∨ k % 2 = 1 := by omega
  rcases this with h | h <;> rw [h]
  · exact (read_other _ _ h92 (fun e => hno ⟨e, h⟩)).symm
  · exact (read_bs _ _ _).symm

set_option maxRecDepth 100000 in
set_option maxHeartbeats 1000000 in
theorem model_any (t : ByteArray) (w : World) (ht : t.size ≤ 1048576) (hpos : 0 < t.size) :
    Calls Try.prog 7 #[.string t] w fun e w' => RetTwo e (read ((bts t).drop 1) []) ∧ Below w.heap.size w w' := by
  go_enter Try.func7, Try.ntmps7
  obtain ⟨i0, hi, iz0, iz1, iz2⟩ := info_parts Try.info5
  go_wp2_with (at_make; refine wpList_make_own _ rfl _ _ 27 rfl w.heap.size 5 i0 (.int .u8 0) 1 Try.underlying27 hi iz0 iz1 .i64 .i64 _ t.size rfl rfl ?c1 ?c2 ?c3 (Nat.le_refl _) ?_)
  case c1 => rfl
  case c2 => rw [iz2]; omega
  case c3 => unfold maxLen; omega
  intro w4 ho4 hg4
  have hb4 : Below w.heap.size w w4 := (Below.refl _ _).grown hg4 (Nat.le_refl _) (fun k hk => by cases hk)
  have ho : Own w.heap.size w4 (.slice (some ⟨w.heap.size, 0, none⟩) 0 t.size) [] := ho4
  have hst : QSt t w.heap.size w w4 (.slice (some ⟨w.heap.size, 0, none⟩) 0 t.size) 1 := ⟨[], ho, BytesL.nil, by simp, rfl, hb4⟩
  clear ho4 hg4 hi iz0 iz1 iz2 ho hb4
  go_wp2
  go_loopw [4, 5] (fun v iv wr => ∃ i : Nat, 1 ≤ i ∧ i ≤ t.size ∧ iv = .int .i64 i ∧ QSt t w.heap.size w wr v i) (fun _ iv _ => t.size - (intOf iv).toNat)
  case atStart => exact ⟨1, Nat.le_refl _, hpos, rfl, hst⟩
  case round =>
    clear hst
    obtain ⟨i, hi1, hi2, rfl, T, ho, hby, hTl, hrd, hbel⟩ := hrel
    have HR := hide hrd
    clear hrd
    by_cases hlt : i < t.size
    · go_wp2
      go_loop [6] (fun jv => ∃ j : Nat, i ≤ j ∧ j ≤ t.size ∧ jv = .int .i64 j ∧ (bts t).drop i = List.replicate (j - i) 92 ++ (bts t).drop j) (fun jv => t.size - (intOf jv).toNat)
      case atStart => exact ⟨i, Nat.le_refl _, hi2, rfl, by simp⟩
      case round =>
        obtain ⟨j, hij, hj, rfl, hrun⟩ := hrel
        have HRun := hide hrun
        clear hrun
        go_upto_region 5 with fail
        go_cut [27] (fun c wx => c = .bool (bsB (bts t) j) ∧ wx = wr)
        case first =>
          by_cases hjl : j < t.size
          · have HP := hide (bs_byte hjl)
            go_wp2
            go_meet
            case rel => exact ⟨val_bool HP.out.symm, rfl⟩
          · have HP := hide (bs_short hjl)
            go_wp2
            go_meet
            case rel => exact ⟨val_bool HP.out.symm, rfl⟩
        case rest =>
          obtain ⟨rfl, hw⟩ := hcut
          obtain rfl := hw.symm
          clear hw
          cases hbs : bsB (bts t) j
          · obtain ⟨k, hk⟩ : ∃ k : Nat, j - i = k := ⟨_, rfl⟩
            have HRun' : Hid ((bts t).drop i = List.replicate k 92 ++ (bts t).drop j) := by
              have := HRun.out
              rwa [hk] at this
            have HJK : Hid (j = i + k) := by show j = i + k; omega
            have hkl : k ≤ t.size := by omega
            clear HRun hk
            go_upto_region 7 with fail
            go_cut [7] (fun kv wx => kv = .int .i64 k ∧ wx = wr)
            case first =>
              go_wp2
              go_meet
              case rel => exact ⟨congrArg (Value.int .i64) (by have := HJK.out; omega), rfl⟩
            case rest =>
              obtain ⟨rfl, hw⟩ := hcut
              obtain rfl := hw.symm
              clear hw
              obtain ⟨h, hh⟩ : ∃ h : Nat, k / 2 = h := ⟨_, rfl⟩
              have hq2 : (k : Int).tdiv 2 = (h : Int) := by rw [← hh]; exact (Int.ofNat_tdiv k 2).symm
              obtain ⟨g, hg⟩ : ∃ g : Nat, k % 2 = g := ⟨_, rfl⟩
              have hr2 : (k : Int).tmod 2 = (g : Int) := by rw [← hg]; exact (Int.ofNat_tmod k 2).symm
              have HG := hide hg
              clear hg
              have hbs0 := hbel.size
              have HH := hide hh
              have hhk : 2 * h ≤ k := by omega
              clear hh
              go_wp2
              go_loopw [4, 8] (fun v mv wq => ∃ m : Nat, m ≤ h ∧ mv = .int .i64 m ∧ Own w.heap.size wq v (T ++ List.replicate m 92) ∧ Below w.heap.size w wq) (fun _ mv _ => h - (intOf mv).toNat)
              case atStart => exact ⟨0, Nat.zero_le _, rfl, by simpa using ho, hbel⟩
              case round =>
                clear ho
                obtain ⟨m, hm, rfl, ho, hb⟩ := hrel
                have hsz := hb.size
                have hln := rep_len T m
                by_cases hml : m < h
                · go_wp2_with (at_builtin; refine wpList_app1 rfl (.tmp 39) (.tmp 40) rfl w.heap.size _ 92 _ _ rfl _ rfl rfl ho hsz (by omega) ?_)
                  intro v2 w2 ho2 hb2
                  have ho3 : Own w.heap.size w2 v2 (T ++ List.replicate (m + 1) 92) := by rw [List.replicate_succ', ← List.append_assoc]; simpa using ho2
                  clear ho ho2
                  go_wp2
                  go_roundw
                  case rel => exact ⟨m + 1, by omega, by go_num, ho3, hb.trans hb2⟩
                  case measure => simp [intOf]; omega
                · obtain rfl : m = h := by omega
                  obtain ⟨T2, HT2⟩ : ∃ T2, Hid (T ++ List.replicate m 92 = T2) := ⟨_, hide rfl⟩
                  have hby2 : BytesL T2 := by rw [← HT2.out]; exact hby.append (bytes_rep m)
                  have hl2 : T2.length ≤ j := by rw [← HT2.out, rep_len]; have := HJK.out; omega
                  rw [HT2.out] at ho
                  have HT2' : Hid (T ++ List.replicate (k / 2) 92 = T2) := by rw [HH.out]; exact HT2
                  clear hln HT2
                  by_cases hje : j = t.size
                  · have HF := hide (after_end HRun'.out HR.out hje)
                    rw [HT2'.out] at HF
                    have hjb : ((j : Int) == (t.size : Int)) = true := by simp [hje]
                    obtain ⟨ao, cap, tx, rfl, hconv, htx⟩ := ho.conv hby2
                    have HT := hide htx
                    clear htx ho hje
                    go_wp2_with (rw [hconv])
                    go_ret2
                    exact ⟨⟨tx, ⟨#[]⟩, rfl, by rw [HF.out]; exact HT.out, by rw [HF.out]; rfl⟩, hb⟩
                  · have hjl : j < t.size := by omega
                    have hjb : ((j : Int) == (t.size : Int)) = false := beq_eq_false_iff_ne.2 (by omega)
                    have HB := hide (bts_get t j hjl)
                    have hc92 : ((t[j]'hjl).toNat : Int) ≠ 92 := by
                      have := bs_byte hjl
                      rw [hbs] at this
                      exact beq_eq_false_iff_ne.1 this.symm
                    have HC := hide hc92
                    clear hc92 hje
                    go_upto_region 15 with fail
                    go_cut [57] (fun c wx => c = .bool ((((t[j]'hjl).toNat : Int) == 34) && ((g : Int) == 0)) ∧ wx = wr)
                    case first =>
                      cases h34 : (((t[j]'hjl).toNat : Int) == 34)
                      · go_wp2
                        go_meet
                        case rel => exact ⟨val_bool (by rw [h34]; rfl), rfl⟩
                      · go_wp2
                        go_meet
                        case rel => exact ⟨val_bool (by rw [h34]; rfl), rfl⟩
                    case rest =>
                      obtain ⟨rfl, hw⟩ := hcut
                      obtain rfl := hw.symm
                      clear hw
                      cases hcl : ((((t[j]'hjl).toNat : Int) == 34) && ((g : Int) == 0))
                      · have hno : ¬ (((t[j]'hjl).toNat : Int) = 34 ∧ k % 2 = 0) := fun ⟨a, b⟩ => by
                          have hg0 : (g : Int) = 0 := by have := HG.out; omega
                          rw [a, hg0] at hcl
                          cases hcl
                        have HN := after_byte HRun'.out HR.out HB.out HC.out hno
                        rw [HT2'.out] at HN
                        have HN := hide HN
                        have hcb : 0 ≤ ((t[j]'hjl).toNat : Int) ∧ ((t[j]'hjl).toNat : Int) ≤ 255 := by
                          have := (t[j]'hjl).toNat_lt
                          omega
                        have HCB := hide hcb
                        clear hno hcb
                        go_wp2_with (at_builtin; refine wpList_app1 rfl (.tmp 64) (.tmp 66) rfl w.heap.size _ ((t[j]'hjl).toNat : Int) _ _ rfl _ rfl rfl ho hsz (by omega) ?_)
                        intro v2 w2 ho2 hb2
                        have hst' : Hid (QSt t w.heap.size w w2 v2 (j + 1)) := ⟨_, ho2, hby2.append (BytesL.one HCB.out), by simp; omega, HN.out, hb.trans hb2⟩
                        clear ho ho2
                        go_wp2
                        go_roundw
                        case rel => exact ⟨j + 1, by omega, by omega, by go_num, hst'.out⟩
                        case measure => simp [intOf]; omega
                      · have h34 : ((t[j]'hjl).toNat : Int) = 34 ∧ (g : Int) = 0 := by simpa using hcl
                        have HF := after_close HRun'.out HR.out (by rw [HB.out, h34.1]) (by have := HG.out; have := h34.2; omega)
                        rw [HT2'.out] at HF
                        have HF := hide HF
                        have hod : Own w.heap.size wr.drew _ T2 := ho
                        obtain ⟨ao, cap, tx, rfl, hconv, htx⟩ := hod.conv hby2
                        have HT := hide htx
                        have HD := hide (bts_drop t (j + 1))
                        have hA : (j : Int) + 1 ≤ (t.size : Int) := by omega
                        have hA3 : (0 : Int) ≤ (j : Int) + 1 := by omega
                        have hA4 : ((j : Int) + 1).toNat = j + 1 := by omega
                        have hA5 : IntKind.i64.wrap ((j : Int) + 1) = (j : Int) + 1 := IntWalk.i64_in _ (by omega)
                        clear htx ho hod h34
                        go_wp2
                        go_region
                        all_goals go_wp2
                        all_goals
                          go_ret2
                          exact ⟨⟨tx, t.extract (j + 1) t.size, rfl, by rw [HF.out]; exact HT.out, by rw [HF.out]; exact HD.out⟩, hb.drew⟩
          · have HN := hide (run_more HRun.out hij hbs)
            have hjl : j < t.size := by
              rcases Nat.lt_or_ge j t.size with h | h
              · exact h
              · rw [bs_short (by omega)] at hbs
                cases hbs
            go_wp2
            go_round
            case rel => exact ⟨j + 1, by omega, by omega, by go_num, HN.out⟩
            case measure => simp [intOf]; omega
    · have HF : Hid (read ((bts t).drop 1) [] = (T, [])) := by
        show _ = _
        rw [← HR.out, List.drop_eq_nil_of_le (by rw [bts_length]; omega), read_nil]
      obtain ⟨ao, cap, tx, rfl, hconv, htx⟩ := ho.conv hby
      have HT := hide htx
      clear htx ho
      go_wp2_with (rw [hconv])
      go_ret2
      exact ⟨⟨tx, ⟨#[]⟩, rfl, by rw [HF.out]; exact HT.out, by rw [HF.out]; rfl⟩, hbel⟩
end Go.Proofs.Qxb6601314a
