/-
  zzLayOut: the walk.
-/
import Derived.Test.Qxb6600096aLayKit
namespace Go.Proofs.Qxb6600096a
open Go.RowKit

set_option maxRecDepth 100000 in
set_option maxHeartbeats 1000000 in
theorem layout_any (a0 a1 a2 a3 : Option Addr) (fs vs : List ByteArray) (zs : List Int) (bk : List Bool) (cap0 cap1 cap2 cap3 : Nat) (l : List Alt) (w : World)
    (h0 : fs.length ≤ 65536) (h3 : bk.length ≤ 65536) (hll : l.length = min3 fs.length zs.length vs.length) (hZ : Zips l fs zs vs) (hpre : (pre l).length ≤ 1000000000) (hcb : ∀ x ∈ l, 0 ≤ x.c ∧ x.c ≤ 255)
    (hS : Strs w a0 fs) (hN : Nums .u8 w a1 zs) (hV : Strs w a2 vs) (hB : Bools w a3 bk) :
    Calls Try.prog 29 #[.slice a0 fs.length cap0, .slice a1 zs.length cap1, .slice a2 vs.length cap2, .slice a3 bk.length cap3] w fun e w' => RetLay w.heap.size l w e w' := by
  obtain ⟨q0, q1, q2⟩ := min3_le fs.length zs.length vs.length
  have HM : Hid (Calls Try.prog 21 #[.int .i64 fs.length, .int .i64 zs.length, .int .i64 vs.length] w fun e w' => e = .returned (.int .i64 l.length) ∧ w' = w) := by
    rw [hll]; exact min3_any _ _ _ w
  rw [← hll] at q0 q1 q2
  clear hll
  have hmk := make_spans l.length (by omega)
  go_enter Try.func29, Try.ntmps29
  go_wp2_with (go_at_call 21; refine HM.out.mono ?_; rintro e w' ⟨rfl, hw⟩; obtain rfl := hw.symm; clear hw)
  go_loopw [14, 16, 17, 18] (fun vT vS vE i wr => ∃ (k : Nat) (T : List Int) (S E P : List Nat), k ≤ l.length ∧ i = .int .i64 k ∧ LayW w.heap.size l k vT vS vE T S E P w wr ∧ BytesL T ∧ LaySt l k T S E P) (fun _ _ _ i _ => l.length - (intOf i).toNat)
  case atStart =>
    have hb0 := (Below.refl w.heap.size w).alloc (Nat.le_refl _) (.cells (madeCells #[.int .i64 0, .int .i64 0, .int .i64 0, .int .i64 0, .int .u8 0, .bool false] (l.length * 6)) 57)
    exact ⟨0, [], [], [], [], Nat.zero_le _, rfl, ⟨Own.nil _ _, OwnI.nil _ _, OwnI.nil _ _, Apart.nil _, SpRow.start 57 w l _ (size_madeCells _ _), hb0⟩, BytesL.nil, LaySt.start l⟩
  case round =>
    obtain ⟨k, T, S, E, P, hk, rfl, hW, hby, hst⟩ := hrel
    by_cases hlt : k < l.length
    · obtain ⟨x, hx⟩ : ∃ x, l[k]? = some x := ⟨_, List.getElem?_eq_getElem hlt⟩
      have hcnt := hst.count
      have hTl : T.length ≤ 1000000000 := by
        obtain ⟨_, _, _, _, _, _, _, _, h⟩ := hst
        have := pre_take_len l k
        omega
      have HPl : Hid (P.length = k) := hst.2.1
      have HX := hide hx
      clear hx
      go_upto_if 38 with fail
      go_cut [14, 16, 17] (fun vT vS vE wc => MidW w.heap.size l k vT vS vE w wc)
      case first =>
        obtain ⟨hT, hSo, hEo, hap, hsp, hbel⟩ := hW
        have hbs := hbel.size
        by_cases hk0 : 0 < k
        · have HA := hide (hst.amp hk0)
          have HB := hide (hst.bar hk0)
          obtain ⟨ao, capT, hvT, _⟩ := hT.shape
          subst hvT
          clear hst
          by_cases hkb : k < bk.length
          · obtain ⟨z, hz⟩ : ∃ z, bk[k]? = some z := ⟨_, List.getElem?_eq_getElem hkb⟩
            obtain ⟨b3, off3, rfl, hc3⟩ := hB k z hz
            replace hc3 := (hbel.cell (World.block_lt_of_cell? _ _ hc3)).trans hc3
            clear hz
            cases z with
            | true =>
              go_wp2_with (at_builtin; refine wpList_appI rfl (.tmp 49) (.tmp 51) rfl w.heap.size _ k _ _ rfl _ rfl rfl hSo hbs (by omega) _ _ hEo hap ?_)
              intro vS' w1 hS1 hE1 hap1 hk1
              have hT1 := hk1.ownsRow hT (by decide)
              have hsp1 := hsp.kept hk1 (by decide)
              have hb1 := hbel.trans hk1.1
              have hbs1 := hb1.size
              clear hSo hEo hap hk1 hT hsp
              go_wp2_with (at_builtin; refine wpList_appI rfl (.tmp 53) (.tmp 56) rfl w.heap.size _ T.length _ _ rfl _ rfl rfl hE1 hbs1 (by omega) _ _ hS1 hap1.symm ?_)
              intro vE' w2 hE2 hS2 hap2 hk2
              have hT2 := hk2.ownsRow hT1 (by decide)
              have hsp2 := hsp1.kept hk2 (by decide)
              have hb2 := hb1.trans hk2.1
              have hbs2 := hb2.size
              clear hS1 hE1 hap1 hk2 hT1 hsp1
              go_wp2_with (at_builtin; refine wpList_app1 rfl (.tmp 58) (.tmp 59) rfl w.heap.size _ 38 _ _ rfl _ rfl rfl hT2 hbs2 (by omega) ?_)
              intro vT' w3 hT3 hk3
              have hS3 := hk3.toT.ownsRow hS2 (by decide)
              have hE3 := hk3.toT.ownsRow hE2 (by decide)
              have hsp3 := hsp2.kept hk3.toT (by decide)
              have hb3 := hb2.trans hk3.1
              clear hS2 hE2 hk3 hT2 hsp2
              go_wp2
              go_meet
              exact ⟨_, _, _, P, ⟨hT3, hS3, hE3, hap2.symm, hsp3, hb3⟩, HA.out, HPl.out, by simp; omega, by simp; omega, hby.append (BytesL.one (by decide) (by decide))⟩
            | false =>
              go_wp2_with (at_builtin; refine wpList_app1 rfl (.tmp 61) (.tmp 62) rfl w.heap.size _ 124 _ _ rfl _ rfl rfl hT hbs (by omega) ?_)
              intro vT' w3 hT3 hk3
              have hS3 := hk3.toT.ownsRow hSo (by decide)
              have hE3 := hk3.toT.ownsRow hEo (by decide)
              have hsp3 := hsp.kept hk3.toT (by decide)
              have hb3 := hbel.trans hk3.1
              clear hSo hEo hk3 hT hsp
              go_wp2
              go_meet
              exact ⟨_, _, _, P, ⟨hT3, hS3, hE3, hap, hsp3, hb3⟩, HB.out, HPl.out, by omega, by omega, hby.append (BytesL.one (by decide) (by decide))⟩
          · go_wp2_with (at_builtin; refine wpList_app1 rfl (.tmp 61) (.tmp 62) rfl w.heap.size _ 124 _ _ rfl _ rfl rfl hT hbs (by omega) ?_)
            intro vT' w3 hT3 hk3
            have hS3 := hk3.toT.ownsRow hSo (by decide)
            have hE3 := hk3.toT.ownsRow hEo (by decide)
            have hsp3 := hsp.kept hk3.toT (by decide)
            have hb3 := hbel.trans hk3.1
            clear hSo hEo hk3 hT hsp
            go_wp2
            go_meet
            exact ⟨_, _, _, P, ⟨hT3, hS3, hE3, hap, hsp3, hb3⟩, HB.out, HPl.out, by omega, by omega, hby.append (BytesL.one (by decide) (by decide))⟩
        · have e : k = 0 := by omega
          have HF : Hid (Mid l k T S E P) := by subst e; exact hst.first
          clear hst e
          go_wp2
          go_meet
          exact ⟨_, _, _, P, ⟨hT, hSo, hEo, hap, hsp, hbel⟩, HF.out, HPl.out, by omega, by omega, hby⟩
      case rest =>
        clear hW hst hTl hcnt HPl hby
        obtain ⟨T1, S1, E1, P1, ⟨hT, hSo, hEo, hap, hsp, hbel⟩, hmid, hPl, hSl, hEl, hby⟩ := hcut
        have hxb := hcb x (List.mem_of_getElem? HX.out)
        have HBY := hide (hby.append (altT_bytes hxb.1 hxb.2))
        clear hby hxb
        have HMid := hide (hmid x HX.out)
        have HPl := hide hPl
        clear hmid hPl
        obtain ⟨hfs, hzs, hvs⟩ := hZ k x HX.out
        obtain ⟨b, off, rfl, hc, hfz⟩ := hS k _ hfs
        obtain ⟨b1, off1, rfl, hc1⟩ := hN k _ hzs
        obtain ⟨b2, off2, rfl, hc2, hvz⟩ := hV k _ hvs
        have g0 : b < w.heap.size := World.block_lt_of_cell? _ _ hc
        have g1 : b1 < w.heap.size := World.block_lt_of_cell? _ _ hc1
        have g2 : b2 < w.heap.size := World.block_lt_of_cell? _ _ hc2
        have hbs := hbel.size
        have hk1 : (k : Int) < fs.length := by omega
        have hk2 : (k : Int) < zs.length := by omega
        have hk3 : (k : Int) < vs.length := by omega
        have hc' : wc.cell? ⟨b, off + k, none⟩ = some (.string x.f) := (hbel.cell (by exact g0)).trans hc
        have hc1' : wc.cell? ⟨b1, off1 + k, none⟩ = some (.int .u8 x.c) := (hbel.cell (by exact g1)).trans hc1
        have hc2' : wc.cell? ⟨b2, off2 + k, none⟩ = some (.string x.v) := (hbel.cell (by exact g2)).trans hc2
        clear hfs hzs hvs
        go_upto_region 15 with fail
        go_cut [19] (fun u wx => OneR wc wx x u)
        case first =>
          have r0 := fun o => cell_alloc hc' o
          have r1 := fun o => cell_alloc hc1' o
          have r2 := fun o => cell_alloc hc2' o
          have s0 := fun o o' => cell_alloc (r0 o) o'
          have s1 := fun o o' => cell_alloc (r1 o) o'
          have s2 := fun o o' => cell_alloc (r2 o) o'
          go_region
          all_goals go_wp2
          all_goals go_meet
          · exact OneR.ab wc x hfz hvz
          · exact OneR.ba wc x hfz hvz
        case rest =>
          clear hc' hc1' hc2'
          obtain ⟨R, A, rfl, hR, hA, hbx⟩ := hcut
          have hT0 := hT.belowW hbx
          have hS0 := hSo.belowW hbx
          have hE0 := hEo.belowW hbx
          have hsp0 := hsp.below hbx
          have hb0 := hbel.trans (hbx.mono hbs)
          have hal := alt_room x
          have HML := hide HMid.out.2
          have hml := HMid.out.2
          clear hT hSo hEo hsp hbel hbx
          go_wp2_with fail
          refine (text1_any x A _ hA (by omega)).mono ?_
          rintro e w1 ⟨⟨v, rfl, ho⟩, hb1⟩
          obtain ⟨ao, capP, hvv, hnums⟩ := ho.shape
          subst hvv
          have hT1 := hT0.belowW hb1
          have hS1 := hS0.belowW hb1
          have hE1 := hE0.belowW hb1
          have hsp1 := hsp0.below hb1
          have hb2 := hb0.trans (hb1.mono hb0.size)
          obtain ⟨ao', capT, hvT, _⟩ := hT1.shape
          subst hvT
          have hbs1 := hb2.size
          have hc' : w1.cell? ⟨b, off + k, none⟩ = some (.string x.f) := (hb2.cell (by exact g0)).trans hc
          have hane : altT x ≠ [] := by intro h; have := congrArg List.length h; simp only [List.length_nil] at this; omega
          clear hT0 hS0 hE0 hsp0 hb0 hb1 ho hA hR
          go_wp2_with (at_builtin; refine wpList_appP rfl (.tmp 93) (.tmp 94) rfl w.heap.size _ _ _ _ _ _ rfl rfl hT1 hnums hane hbs1 (by omega) ?_)
          intro vT' w2 hT2 hk2
          have hS2 := hk2.toT.ownsRow hS1 (by decide)
          have hE2 := hk2.toT.ownsRow hE1 (by decide)
          have hsp2 := hsp1.kept hk2.toT (by decide)
          have hb3 := hb2.trans hk2.1
          have hd1 : w2.cell? ⟨b1, off1 + k, none⟩ = some (.int .u8 x.c) := (hb3.cell (by exact g1)).trans hc1
          have hd2 : w2.cell? ⟨b2, off2 + k, none⟩ = some (.string x.v) := (hb3.cell (by exact g2)).trans hc2
          clear hT1 hS1 hE1 hsp1 hb2 hk2 hc' hnums
          obtain ⟨F, hrow, _⟩ := id hsp2
          have r0 := hrow.cell (i := k * 6) (by omega)
          have r1 := hrow.cell (i := k * 6 + 1) (by omega)
          have r2 := hrow.cell (i := k * 6 + 2) (by omega)
          have r3 := hrow.cell (i := k * 6 + 3) (by omega)
          have r4 := hrow.cell (i := k * 6 + 4) (by omega)
          have r5 := hrow.cell (i := k * 6 + 5) (by omega)
          have f0 := hrow.frozen (k * 6)
          have f1 := hrow.frozen (k * 6 + 1)
          have f2 := hrow.frozen (k * 6 + 2)
          have f3 := hrow.frozen (k * 6 + 3)
          have f4 := hrow.frozen (k * 6 + 4)
          have f5 := hrow.frozen (k * 6 + 5)
          have hk4 : (k : Int) < l.length := by omega
          clear hrow hane
          unfold maxLen at hfz hvz
          go_wp2
          go_region
          all_goals go_wp2
          go_roundw
          case rel => exact ⟨k + 1, _, S1, E1, _, by omega, by go_num, lay_round HX.out HPl.out hT2 hS2 hE2 hap hsp2 hb3, HBY.out, HMid.out.1⟩
          case measure => simp [intOf]; omega
    · have e : k = l.length := by omega
      subst e
      obtain ⟨hT, hSo, hEo, hap, hsp, hbel⟩ := hW
      have hbs := hbel.size
      have hcnt := hst.count
      obtain ⟨ao, capT, hvT, _⟩ := hT.shape
      subst hvT
      by_cases hl0 : 0 < l.length
      · have HF := hide (hst.finish hl0)
        clear hst
        go_wp2_with (at_builtin; refine wpList_appI rfl (.tmp 129) (.tmp 131) rfl w.heap.size _ l.length _ _ rfl _ rfl rfl hSo hbs (by omega) _ _ hEo hap ?_)
        intro vS' w1 hS1 hE1 hap1 hk1
        have hT1 := hk1.ownsRow hT (by decide)
        have hsp1 := hsp.kept hk1 (by decide)
        have hb1 := hbel.trans hk1.1
        have hbs1 := hb1.size
        clear hSo hEo hap hk1 hT hsp
        go_wp2_with (at_builtin; refine wpList_appI rfl (.tmp 133) (.tmp 136) rfl w.heap.size _ T.length _ _ rfl _ rfl rfl hE1 hbs1 (by omega) _ _ hS1 hap1.symm ?_)
        intro vE' w2 hE2 hS2 hap2 hk2
        have hT2 := hk2.ownsRow hT1 (by decide)
        have hsp2 := hsp1.kept hk2 (by decide)
        have hb2 := hb1.trans hk2.1
        clear hS1 hE1 hap1 hk2 hT1 hsp1
        go_wp2
        exact bodyPost_ret (v := .tuple #[.slice ao T.length capT, .slice (some ⟨w.heap.size, 0, none⟩) l.length l.length, vS', vE', .bool true]) (by simp [results, Try.results29, go_sem]) rfl
          ⟨_, _, _, T, _, _, P, rfl, ⟨hT2, hS2, hE2, hap2.symm, hsp2, hb2⟩, HF.out, hby⟩
      · have HF := hide (hst.empty (by omega))
        clear hst
        go_wp2
        exact bodyPost_ret (v := .tuple #[.slice ao T.length capT, .slice (some ⟨w.heap.size, 0, none⟩) l.length l.length, u16, u17, .bool true]) (by simp [results, Try.results29, go_sem]) rfl
          ⟨_, _, _, T, _, _, P, rfl, ⟨hT, hSo, hEo, hap, hsp, hbel⟩, HF.out, hby⟩
end Go.Proofs.Qxb6600096a
