/-
  FnAppendTextSplitsBack: the walk.
-/
import Derived.Test.Qxb6600096aText
namespace Go.Proofs.Qxb6600096a
open Go.RowKit

theorem Strs.below {w w' : World} {a : Option Addr} {ss : List ByteArray} (h : Strs w a ss) (hb : Below w.heap.size w w') : Strs w' a ss := by
  intro k s hs
  obtain ⟨b, off, e, hc, hz⟩ := h k s hs
  exact ⟨b, off, e, (hb.cell (World.block_lt_of_cell? _ _ hc)).trans hc, hz⟩
theorem Nums.below {k : IntKind} {w w' : World} {a : Option Addr} {zs : List Int} (h : Nums k w a zs) (hb : Below w.heap.size w w') : Nums k w' a zs := by
  intro i z hz
  obtain ⟨b, off, e, hc⟩ := h i z hz
  exact ⟨b, off, e, (hb.cell (World.block_lt_of_cell? _ _ hc)).trans hc⟩

def mkAlts (fs : List ByteArray) (zs : List Int) (vs : List ByteArray) (n : Nat) : List Alt :=
  (List.range n).map fun k => ⟨fs.getD k ByteArray.empty, zs.getD k 0, vs.getD k ByteArray.empty⟩
theorem mkAlts_length (fs : List ByteArray) (zs : List Int) (vs : List ByteArray) (n : Nat) : (mkAlts fs zs vs n).length = n := by simp [mkAlts]
theorem getD_some {α : Type} (l : List α) (k : Nat) (d : α) (h : k < l.length) : l[k]? = some (l.getD k d) := by
  rw [List.getD_eq_getElem?_getD, List.getElem?_eq_getElem h]; rfl
theorem mkAlts_zips {fs : List ByteArray} {zs : List Int} {vs : List ByteArray} {n : Nat} (h0 : n ≤ fs.length) (h1 : n ≤ zs.length) (h2 : n ≤ vs.length) : Zips (mkAlts fs zs vs n) fs zs vs := by
  intro k x hx
  have hk : k < n := by have := (List.getElem?_eq_some_iff.1 hx).1; rwa [mkAlts_length] at this
  simp only [mkAlts, List.getElem?_map, List.getElem?_range hk, Option.map_some, Option.some.injEq] at hx
  subst hx
  exact ⟨getD_some _ _ _ (by omega), getD_some _ _ _ (by omega), getD_some _ _ _ (by omega)⟩
theorem sizes_take_le (ss : List ByteArray) (k : Nat) : sizes (ss.take k) ≤ sizes ss := by
  have e : sizes ss = sizes (ss.take k) + sizes (ss.drop k) := by unfold sizes; rw [← List.sum_append_nat, ← List.map_append, List.take_append_drop]
  omega
theorem pre_mkAlts_len {fs : List ByteArray} {zs : List Int} {vs : List ByteArray} (n : Nat) (h0 : n ≤ fs.length) (h2 : n ≤ vs.length) : (pre (mkAlts fs zs vs n)).length ≤ 2 * n + sizes (fs.take n) + 2 * sizes (vs.take n) := by
  induction n with
  | zero => simp [mkAlts, pre]
  | succ n ih =>
    have ih := ih (by omega) (by omega)
    have e : mkAlts fs zs vs (n + 1) = mkAlts fs zs vs n ++ [⟨fs.getD n ByteArray.empty, zs.getD n 0, vs.getD n ByteArray.empty⟩] := by simp [mkAlts, List.range_succ]
    have e1 := sizes_take_succ (getD_some fs n ByteArray.empty (by omega))
    have e2 := sizes_take_succ (getD_some vs n ByteArray.empty (by omega))
    have e3 := esc_len (bts (vs.getD n ByteArray.empty))
    rw [bts_length] at e3
    rw [e, pre_snoc, List.length_append, e1, e2]
    simp only [altT, List.length_cons, List.length_append, bts_length]
    omega

theorem hasB_false {f : ByteArray} {c : Int} (h : hasB f c = false) : ∀ d ∈ bts f, d ≠ c := by
  intro d hd e
  subst e
  unfold hasB at h
  rw [List.any_eq_false] at h
  exact h d hd (by simp)
theorem safe_all {l : List Alt} {fs : List ByteArray} {zs : List Int} {vs : List ByteArray} (hZ : Zips l fs zs vs) (h : SafeUpto fs zs l.length) : ∀ a ∈ l, Safe a := by
  intro x hx
  obtain ⟨k, hk⟩ := List.getElem?_of_mem hx
  obtain ⟨hf, hc, _⟩ := hZ k x hk
  obtain ⟨h1, h2, h3, h4⟩ := h k x.f x.c (List.getElem?_eq_some_iff.1 hk).1 hf hc
  exact ⟨fun d hd => ⟨hasB_false h1 d hd, hasB_false h2 d hd⟩, by simpa using h3, by simpa using h4⟩
theorem noBar_all {l : List Alt} {fs : List ByteArray} {zs : List Int} {vs : List ByteArray} (hZ : Zips l fs zs vs) (h : NoBarUpto fs zs l.length) : ∀ a ∈ l, NoBar a := by
  intro x hx
  obtain ⟨k, hk⟩ := List.getElem?_of_mem hx
  obtain ⟨hf, hc, _⟩ := hZ k x hk
  obtain ⟨h1, h3⟩ := h k x.f x.c (List.getElem?_eq_some_iff.1 hk).1 hf hc
  exact ⟨hasB_false h1, by simpa using h3⟩

set_option maxHeartbeats 400000 in
theorem zzText_any (a : Option Addr) (cap : Nat) (l : List Alt) (w : World) (hl : l.length ≤ 65536) (hA : AltsAt w a l) (hlen : (pre l).length ≤ 1073741824) :
    Calls Try.prog 17 #[.agg #[.slice a l.length cap], .slice none 0 0] w fun e w' => (∃ v, e = .returned v ∧ Own w.heap.size w' v (txt l)) ∧ Below w.heap.size w w' := by
  have hA' := fun o => AltsAt.below hA ((Below.refl w.heap.size w).alloc (Nat.le_refl _) o)
  go_enter Try.func17, Try.ntmps17
  go_wp2_with (go_at_call 34; refine (appendText_any _ _ _ _ hl (hA' _) hlen).mono ?_; rintro e w' ⟨⟨v, rfl, ho⟩, hb⟩)
  go_ret
  have hb0 := (Below.refl w.heap.size w).alloc (Nat.le_refl _) (.cells #[.slice a l.length cap] 32)
  exact ⟨⟨v, rfl, ho.mono (by simp)⟩, hb0.trans (hb.mono (by simp))⟩

theorem scan_at {out : List Int} {k m : Nat} {c : Int} (hs : scan (out.drop k) = some m) (hc : out[k]? = some c) : c ≠ 38 ∧ (c = 92 → k + 2 ≤ out.length ∧ scan (out.drop (k + 2)) = some m) ∧
    (c ≠ 92 → c = 124 → ∃ m', m = m' + 1 ∧ scan (out.drop (k + 1)) = some m') ∧ (c ≠ 92 → c ≠ 124 → scan (out.drop (k + 1)) = some m) := by
  have e : out.drop k = c :: out.drop (k + 1) := by
    obtain ⟨hk, rfl⟩ := List.getElem?_eq_some_iff.1 hc
    exact List.drop_eq_getElem_cons hk
  rw [e] at hs
  have h38 : c ≠ 38 := by
    intro h
    subst h
    rw [scan_amp] at hs
    cases hs
  refine ⟨h38, fun h => ?_, fun h1 h2 => ?_, fun h1 h2 => ?_⟩
  · subst h
    cases e2 : out.drop (k + 1) with
    | nil => rw [e2, scan_lone] at hs; cases hs
    | cons d r =>
      rw [e2, scan_bs] at hs
      have hl := congrArg List.length e2
      rw [List.length_drop, List.length_cons] at hl
      refine ⟨by omega, ?_⟩
      have : out.drop (k + 2) = r := by
        have h2 : out.drop (k + 2) = (out.drop (k + 1)).drop 1 := by rw [List.drop_drop]
        rw [h2, e2]; rfl
      rw [this]; exact hs
  · subst h2
    rw [scan_bar] at hs
    cases e3 : scan (out.drop (k + 1)) with
    | none => rw [e3] at hs; cases hs
    | some m' => rw [e3] at hs; exact ⟨m', (Option.some.inj hs).symm, rfl⟩
  · rwa [scan_other _ h1 h38 h2] at hs

set_option maxHeartbeats 1000000 in
theorem splits_any (a0 a1 a2 : Option Addr) (fs vs : List ByteArray) (zs : List Int) (cap0 cap1 cap2 : Nat) (w : World) (m0 : fs.length ≤ maxLen) (m2 : vs.length ≤ maxLen)
    (hS : Strs w a0 fs) (hN : Nums .u8 w a1 zs) (hV : Strs w a2 vs) :
    Calls Try.prog 8 #[.slice a0 fs.length cap0, .slice a1 zs.length cap1, .slice a2 vs.length cap2] w fun e w' => e = .returned (.bool true) ∧ Below w.heap.size w w' := by
  have HZB := hide (zzBytes8_any a0 a1 a2 fs vs zs.length cap0 cap1 cap2 w m0 m2 hS hV)
  by_cases h0 : fs.length ≤ 65536
  · by_cases h1 : zs.length ≤ 65536
    · by_cases h2 : vs.length ≤ 65536
      · have HB0 := hide (stringsBytes_any a0 fs cap0 w h0 hS)
        have HB2 := hide (stringsBytes_any a2 vs cap2 w h2 hV)
        obtain ⟨q0, q1, q2⟩ := min3_le fs.length zs.length vs.length
        obtain ⟨l, hll, hZ, hpre⟩ : ∃ l : List Alt, l.length = min3 fs.length zs.length vs.length ∧ Zips l fs zs vs ∧ (pre l).length ≤ 2 * l.length + sizes fs + 2 * sizes vs :=
          ⟨_, mkAlts_length _ _ _ _, mkAlts_zips q0 q1 q2, by
            have := pre_mkAlts_len (zs := zs) (min3 fs.length zs.length vs.length) q0 q2
            have t0 := sizes_take_le fs (min3 fs.length zs.length vs.length)
            have t2 := sizes_take_le vs (min3 fs.length zs.length vs.length)
            rw [mkAlts_length]
            omega⟩
        have HM : Hid (Calls Try.prog 21 #[.int .i64 fs.length, .int .i64 zs.length, .int .i64 vs.length] w fun e w' => e = .returned (.int .i64 l.length) ∧ w' = w) := by
          rw [hll]; exact min3_any _ _ _ w
        rw [← hll] at q0 q1 q2
        have HJ := hide (joinSafe_any a0 a1 fs zs cap0 cap1 l.length w h0 q0 q1 hS hN)
        have HA := hide (alts_any a0 a1 a2 fs vs zs cap0 cap1 cap2 l w (by omega) q0 q1 q2 hZ hS hN hV h0)
        have HLS : Hid (∀ x ∈ l, x.f.size ≤ maxLen ∧ x.v.size ≤ maxLen) := by
          intro x hx
          obtain ⟨k, hk⟩ := List.getElem?_of_mem hx
          obtain ⟨hf, _, hv⟩ := hZ k x hk
          obtain ⟨_, _, _, _, z0⟩ := hS k _ hf
          obtain ⟨_, _, _, _, z2⟩ := hV k _ hv
          exact ⟨z0, z2⟩
        clear hll
        go_enter Try.func8, Try.ntmps8
        go_wp2_with (go_at_call 25; refine HZB.out.mono ?_; rintro e w' ⟨⟨b, rfl⟩, hw⟩; obtain rfl := hw.symm; clear hw; cases b)
        · go_ret
          exact ⟨rfl, Below.refl _ _⟩
        · refine HB0.out.mono ?_
          rintro e w' ⟨⟨n0, rfl, hn0, hz0⟩, hw⟩
          obtain rfl := hw.symm
          clear hw
          go_wp2_with fail
          refine HB2.out.mono ?_
          rintro e w' ⟨⟨n2, rfl, hn2, hz2⟩, hw⟩
          obtain rfl := hw.symm
          clear hw
          by_cases hsum : n0 + n2 + zs.length ≤ 1048576
          · go_wp2_with fail
            refine HM.out.mono ?_
            rintro e w' ⟨rfl, hw⟩
            obtain rfl := hw.symm
            clear hw
            go_wp2_with fail
            refine HJ.out.mono ?_
            rintro e w' ⟨⟨b, rfl, hsafe⟩, hw⟩
            obtain rfl := hw.symm
            clear hw
            cases b
            · go_wp2
              go_ret
              exact ⟨rfl, Below.refl _ _⟩
            · have hsafe := hsafe rfl
              have HS := hide (safe_all hZ hsafe)
              clear hsafe
              go_wp2_with fail
              refine HA.out.mono ?_
              rintro e w1 ⟨rfl, hfil⟩
              have hb1 := hfil.1
              have hat := hfil.done HLS.out
              clear hfil
              go_wp2_with fail
              refine (zzText_any _ _ _ _ (by omega) hat (by have := hz0 (by omega); have := hz2 (by omega); omega)).mono ?_
              rintro e w2 ⟨⟨v, rfl, ho⟩, hb2⟩
              have hb := hb1.trans (hb2.mono hb1.size)
              obtain ⟨ao, cap, hv, hout⟩ := ho.shape
              subst hv
              have hot := txt_len l
              have hol : (txt l).length ≤ 1073741824 := by have := hz0 (by omega); have := hz2 (by omega); omega
              obtain ⟨M, hM⟩ : ∃ M, scan (txt l) = some M := ⟨_, scan_txt l HS.out⟩
              have HNB : Hid ((∀ a ∈ l, NoBar a) → M = l.length - 1) := fun h => by
                have := scan_txt_noBar l HS.out h
                rw [hM] at this
                exact Option.some.inj this
              have HNZ := hide (fun h : NoBarUpto fs zs l.length => noBar_all hZ h)
              have HNO := hide (noBar_any a0 a1 fs zs cap0 cap1 l.length w2 h0 q0 q1 (hS.below hb) (hN.below hb))
              have HMM : Hid (scan (txt l) = some M) := hM
              clear ho hat hb1 hb2 hot hpre hM HS HA HJ HB0 HB2 HZB HM HLS hZ hz0 hz2 hn0 hn2
              go_wp2
              go_loop [9, 10] (fun bs i => ∃ k m b : Nat, k ≤ (txt l).length ∧ i = .int .i64 k ∧ bs = .int .i64 b ∧ b ≤ k ∧ scan ((txt l).drop k) = some m ∧ b + m = M) (fun _ i => (txt l).length - (intOf i).toNat)
              case atStart => exact ⟨0, M, 0, Nat.zero_le _, rfl, rfl, Nat.le_refl _, by simpa using HMM.out, by omega⟩
              case round =>
                obtain ⟨k, m, b, hk, rfl, rfl, hbk, hsc, hbm⟩ := hrel
                by_cases hlt : k < (txt l).length
                · obtain ⟨z, hz⟩ : ∃ z, (txt l)[k]? = some z := ⟨_, List.getElem?_eq_getElem hlt⟩
                  have HSA := hide (scan_at hsc hz)
                  obtain ⟨b1, off1, rfl, hc1⟩ := hout k z hz
                  have h38 := HSA.out.1
                  clear hz hsc
                  cases e92 : (z == 92) with
                  | true =>
                    have hz : z = 92 := by simpa using e92
                    have HZ := hide (HSA.out.2.1 hz)
                    have hk2 := HZ.out.1
                    clear h38 hz
                    go_wp2
                    go_round
                    case rel => exact ⟨k + 2, m, b, by omega, by go_num, rfl, by omega, HZ.out.2, hbm⟩
                    case measure => simp [intOf]; omega
                  | false =>
                    have hz : z ≠ 92 := by simpa using e92
                    have e38 : (z == 38) = false := by simpa using h38
                    cases e124 : (z == 124) with
                    | true =>
                      obtain ⟨m', hm', hs'⟩ := HSA.out.2.2.1 hz (by simpa using e124)
                      have HZ := hide hs'
                      clear h38 hz hs'
                      go_wp2
                      go_round
                      case rel => exact ⟨k + 1, m', b + 1, by omega, by go_num, by go_num, by omega, HZ.out, by omega⟩
                      case measure => simp [intOf]; omega
                    | false =>
                      have HZ := hide (HSA.out.2.2.2 hz (by simpa using e124))
                      clear h38 hz
                      go_wp2
                      go_round
                      case rel => exact ⟨k + 1, m, b, by omega, by go_num, rfl, by omega, HZ.out, hbm⟩
                      case measure => simp [intOf]; omega
                · have hmz : m = 0 := by
                    rw [List.drop_of_length_le (by omega)] at hsc
                    simpa [scan] using hsc.symm
                  have hbM : b = M := by omega
                  have HBM := hide hbM
                  clear hmz hsc hbM
                  go_wp2_with fail
                  refine HNO.out.mono ?_
                  rintro e w' ⟨⟨bb, rfl, hnb⟩, hw⟩
                  obtain rfl := hw.symm
                  clear hw
                  cases bb
                  · go_wp2
                    go_ret
                    exact ⟨rfl, hb⟩
                  · have hbl : b = l.length - 1 := HBM.out.trans (HNB.out (HNZ.out (hnb rfl)))
                    have HBL := hide hbl
                    clear hbl hnb hbm
                    by_cases hl0 : l.length = 0
                    · have e0 : ((l.length : Int) == 0) = true := by simp [hl0]
                      have eb : ((b : Int) == 0) = true := by have := HBL.out; simp; omega
                      clear hl0
                      go_wp2
                      go_ret
                      exact ⟨rfl, hb⟩
                    · have e0 : ((l.length : Int) == 0) = false := by rw [beq_eq_false_iff_ne]; omega
                      have eb : ((b : Int) == (l.length : Int) - 1) = true := by have := HBL.out; simp; omega
                      clear hl0
                      go_wp2
                      go_ret
                      exact ⟨rfl, hb⟩
          · go_wp2
            go_ret
            exact ⟨rfl, Below.refl _ _⟩
      · go_enter Try.func8, Try.ntmps8
        go_wp2_with (go_at_call 25; refine HZB.out.mono ?_; rintro e w' ⟨⟨b, rfl⟩, rfl⟩; cases b)
        all_goals
          go_ret
          exact ⟨rfl, Below.refl _ _⟩
    · go_enter Try.func8, Try.ntmps8
      go_wp2_with (go_at_call 25; refine HZB.out.mono ?_; rintro e w' ⟨⟨b, rfl⟩, rfl⟩; cases b)
      all_goals
        go_ret
        exact ⟨rfl, Below.refl _ _⟩
  · go_enter Try.func8, Try.ntmps8
    go_wp2_with (go_at_call 25; refine HZB.out.mono ?_; rintro e w' ⟨⟨b, rfl⟩, rfl⟩; cases b)
    all_goals
      go_ret
      exact ⟨rfl, Below.refl _ _⟩
end Go.Proofs.Qxb6600096a
