/-
  FnTakeInvertsAppendText: the walk.
-/
import Derived.Test.Qxb6600096aLay
import Derived.Test.Qxb6600096aZzTake
import Derived.Test.Qxb6600096aMatches
import Derived.Test.Qxb6600096aZzBytes
import Derived.Laws.BytesArg
namespace Go.Proofs.Qxb6600096a
open Go.RowKit

theorem strOfNums_bts {T : List Int} (h : BytesL T) : bts (strOfNums T) = T := by
  have e : bts (strOfNums T) = T.map fun n => ((UInt8.ofNat n.toNat).toNat : Int) := by
    simp [bts, strOfNums]
  rw [e]
  conv => rhs; rw [← List.map_id T]
  apply List.map_congr_left
  intro z hz
  obtain ⟨h0, h1⟩ := h z hz
  have : z.toNat < 256 := by omega
  simp only [id]
  have e2 : (UInt8.ofNat z.toNat).toNat = z.toNat := by
    rw [UInt8.toNat_ofNat']
    omega
  rw [e2]
  omega

/-- 'string(text)', text a row of bytes of the call's own. -/
theorem Own.conv {B : Nat} {w : World} {v : Value} {T : List Int} (h : Own B w v T) (hb : BytesL T) :
    ∃ ao cap tx, v = .slice ao T.length cap ∧ T.length ≤ cap ∧ Nums .u8 w ao T ∧ (convert 33 9 (.slice ao T.length cap)).run Try.prog w = .ok (.string tx) w ∧ bts tx = T := by
  rcases h.2 with ⟨hv, hn⟩ | ⟨g, cap, cur, hv, hg, hh, hnc, hcm, hcs, htake⟩
  · have hT : T = [] := List.eq_nil_of_length_eq_zero hn
    subst hT
    exact ⟨none, 0, ByteArray.empty, hv, Nat.le_refl _, fun i z hz => by simp at hz, run_convert_bytes_nil w 33 5 Try.underlying33 Try.underlying5 0 0 9 Try.underlying9, rfl⟩
  · have hN : Nums .u8 w (some ⟨g, 0, none⟩) T := fun i z hz => ⟨g, 0, rfl, by
      have := h.cells (g := g) (by rw [hv]; rfl) i (.int .u8 z) (by simp [hz])
      rwa [Addr.add_lit] at this⟩
    refine ⟨some ⟨g, 0, none⟩, cap, strOfNums T, hv, hnc, hN, run_convert_bytes_arg w 33 5 Try.underlying33 Try.underlying5 g 0 T.length cap T rfl ?_ 9 Try.underlying9, strOfNums_bts hb⟩
    intro i hi
    obtain ⟨b, off, e, hc⟩ := hN i _ (List.getElem?_eq_getElem hi)
    obtain ⟨rfl, rfl⟩ : g = b ∧ 0 = off := by simpa using e
    rw [hc, List.getD_eq_getElem?_getD, List.getElem?_eq_getElem hi]
    rfl

set_option maxRecDepth 100000 in
set_option maxHeartbeats 1000000 in
theorem inverts_any (a0 a1 a2 a3 : Option Addr) (fs vs : List ByteArray) (zs : List Int) (bk : List Bool) (cap0 cap1 cap2 cap3 : Nat) (w : World) (m0 : fs.length ≤ maxLen) (m2 : vs.length ≤ maxLen)
    (hS : Strs w a0 fs) (hN : Nums .u8 w a1 zs) (hV : Strs w a2 vs) (hB : Bools w a3 bk) (hzb : ∀ z ∈ zs, 0 ≤ z ∧ z ≤ 255) :
    Calls Try.prog 9 #[.slice a0 fs.length cap0, .slice a1 zs.length cap1, .slice a2 vs.length cap2, .slice a3 bk.length cap3] w fun e w' => e = .returned (.bool true) ∧ Below w.heap.size w w' := by
  have HZB := hide (zzBytes9_any a0 a1 a2 a3 fs vs zs.length bk.length cap0 cap1 cap2 cap3 w m0 m2 hS hV)
  by_cases h0 : fs.length ≤ 65536
  · by_cases h1 : zs.length ≤ 65536
    · by_cases h2 : vs.length ≤ 65536
      · by_cases h3 : bk.length ≤ 65536
        · have HB0 := hide (stringsBytes_any a0 fs cap0 w h0 hS)
          have HB2 := hide (stringsBytes_any a2 vs cap2 w h2 hV)
          obtain ⟨q0, q1, q2⟩ := min3_le fs.length zs.length vs.length
          obtain ⟨l, hll, hZ, hpre⟩ : ∃ l : List Alt, l.length = min3 fs.length zs.length vs.length ∧ Zips l fs zs vs ∧ (pre l).length ≤ 2 * l.length + sizes fs + 2 * sizes vs :=
            ⟨_, mkAlts_length _ _ _ _, mkAlts_zips q0 q1 q2, by
              have := pre_mkAlts_len (zs := zs) (min3 fs.length zs.length vs.length) q0 q2
              have t0 := sizes_take_le fs (min3 fs.length zs.length vs.length)
              have t2 := sizes_take_le vs (min3 fs.length zs.length vs.length)
              rw [mkAlts_length]
              omega⟩
          have HLL := hide hll
          rw [← hll] at q0 q1 q2
          have HLS : Hid (∀ x ∈ l, x.f.size ≤ maxLen ∧ x.v.size ≤ maxLen) := by
            intro x hx
            obtain ⟨k, hk⟩ := List.getElem?_of_mem hx
            obtain ⟨hf, _, hv⟩ := hZ k x hk
            obtain ⟨_, _, _, _, z0⟩ := hS k _ hf
            obtain ⟨_, _, _, _, z2⟩ := hV k _ hv
            exact ⟨z0, z2⟩
          have HCB : Hid (∀ x ∈ l, 0 ≤ x.c ∧ x.c ≤ 255) := by
            intro x hx
            obtain ⟨k, hk⟩ := List.getElem?_of_mem hx
            exact hzb _ (List.mem_of_getElem? (hZ k x hk).2.1)
          clear hll
          go_enter Try.func9, Try.ntmps9
          go_wp2_with (go_at_call 28; refine HZB.out.mono ?_; rintro e w' ⟨⟨b, rfl⟩, hw⟩; obtain rfl := hw.symm; clear hw; cases b)
          · go_ret
            exact ⟨rfl, Below.refl _ _⟩
          · refine HB0.out.mono ?_
            rintro e w' ⟨⟨n0, rfl, hn0, hz0⟩, hw⟩
            obtain rfl := hw.symm
            clear hw
            go_wp2_with fail
            refine HB2.out.mono ?_
            rintro e w' ⟨⟨n2, rfl, hn2, hz2⟩, hw⟩
            obtain rfl := hw.symm
            clear hw
            by_cases hsum : n0 + n2 + zs.length + bk.length ≤ 1048576
            · have hpr : (pre l).length ≤ 1000000000 := by have := hz0 (by omega); have := hz2 (by omega); omega
              go_wp2_with fail
              refine (layout_any a0 a1 a2 a3 fs vs zs bk cap0 cap1 cap2 cap3 l _ h0 h3 HLL.out hZ hpr HCB.out hS hN hV hB).mono ?_
              rintro e w1 ⟨vT, vS, vE, T, S, E, P, rfl, ⟨hT, hSo, hEo, hap, hsp, hb1⟩, hL, hby⟩
              obtain ⟨aT, capT, tx, rfl, hcT, hNT, hcv, htx⟩ := hT.conv hby
              obtain ⟨aS, capS, rfl, hNS⟩ := hSo.shape
              obtain ⟨aE, capE, rfl, hNE⟩ := hEo.shape
              have HTX := hide htx
              have htl : tx.size ≤ 1000000000 := by
                have h := congrArg List.length htx
                rw [bts_length] at h
                have := hL.2.2.2.2.1
                omega
              have HES := hide hL.2.2.1.1
              clear htx hap hT hSo hEo hn0 hn2 hz0 hz2 hpre
              go_wp2_with fail
              refine (zzTake_any w.heap.size l P S E T aS aE capS capE tx _ (by omega) hsp HTX.out hNS hNE hL htl).mono ?_
              rintro e w2 ⟨A, G, vG, rfl, hA, hAG, hrs, har, ho, hb2⟩
              have hb := hb1.trans (hb2.mono hb1.size)
              obtain ⟨aG, capG, rfl, hNG⟩ := ho.shape
              clear hcv
              go_wp2_with fail
              refine (matches_any a0 a1 a2 aT aS aE aG A G fs vs zs cap0 cap1 cap2 capT capS capE capG l T S E P _ h0 HLL.out hZ (hS.below hb) (hN.below hb) (hV.below hb) (hNT.below hb2) hcT HLS.out (hNS.below hb2) (hNE.below hb2) hNG hL hpr hrs har).mono ?_
              rintro e w3 ⟨rfl, hb3⟩
              go_wp2
              go_ret
              exact ⟨rfl, hb.trans (hb3.mono hb.size)⟩
            · go_wp2
              go_ret
              exact ⟨rfl, Below.refl _ _⟩
        · go_enter Try.func9, Try.ntmps9
          go_wp2_with (go_at_call 28; refine HZB.out.mono ?_; rintro e w' ⟨⟨b, rfl⟩, rfl⟩; cases b)
          all_goals
            go_ret
            exact ⟨rfl, Below.refl _ _⟩
      · go_enter Try.func9, Try.ntmps9
        go_wp2_with (go_at_call 28; refine HZB.out.mono ?_; rintro e w' ⟨⟨b, rfl⟩, rfl⟩; cases b)
        all_goals
          go_ret
          exact ⟨rfl, Below.refl _ _⟩
    · go_enter Try.func9, Try.ntmps9
      go_wp2_with (go_at_call 28; refine HZB.out.mono ?_; rintro e w' ⟨⟨b, rfl⟩, rfl⟩; cases b)
      all_goals
        go_ret
        exact ⟨rfl, Below.refl _ _⟩
  · go_enter Try.func9, Try.ntmps9
    go_wp2_with (go_at_call 28; refine HZB.out.mono ?_; rintro e w' ⟨⟨b, rfl⟩, rfl⟩; cases b)
    all_goals
      go_ret
      exact ⟨rfl, Below.refl _ _⟩
end Go.Proofs.Qxb6600096a
