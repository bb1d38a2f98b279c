/-
  zzTakeMatches: the walk.
-/
import Derived.Test.Qxb6600096aMatchKit
import Derived.Deep.RegionHeld3
import Derived.Deep.DrawnRows
namespace Go.Proofs.Qxb6600096a
open Go.RowKit
attribute [local go_sem ↓] Go.wp_at_zero Go.wp_at_succ

set_option maxRecDepth 100000 in
set_option maxHeartbeats 1000000 in
theorem matches_any (a0 a1 a2 aT aS aE aG : Option Addr) (A G : Nat) (fs vs : List ByteArray) (zs : List Int) (cap0 cap1 cap2 capT capS capE capG : Nat) (l : List Alt) (T : List Int) (S E P : List Nat) (w : World)
    (h0 : fs.length ≤ 65536) (hll : l.length = min3 fs.length zs.length vs.length) (hZ : Zips l fs zs vs)
    (hF : Strs w a0 fs) (hN : Nums .u8 w a1 zs) (hV : Strs w a2 vs) (hT : Nums .u8 w aT T) (hcapT : T.length ≤ capT) (hz : ∀ x ∈ l, x.f.size ≤ maxLen ∧ x.v.size ≤ maxLen) (hNS : NumsN w aS S) (hNE : NumsN w aE E) (hNG : NumsN w aG E) (hL : Laid l T S E P) (hpre : (pre l).length ≤ 1000000000)
    (hrs : RsRow w G A S S.length) (har : AltRow w A l l.length) :
    Calls Try.prog 31 #[.slice a0 fs.length cap0, .slice a1 zs.length cap1, .slice a2 vs.length cap2, .slice aT T.length capT, .slice aS S.length capS, .slice aE E.length capE, .slice (some ⟨G, 0, none⟩) S.length S.length, .slice aG E.length capG] w
      fun e w' => e = .returned (.bool true) ∧ Below w.heap.size w w' := by
  obtain ⟨q0, q1, q2⟩ := min3_le fs.length zs.length vs.length
  have HM0 : ∀ w, Calls Try.prog 21 #[.int .i64 fs.length, .int .i64 zs.length, .int .i64 vs.length] w fun e w' => e = .returned (.int .i64 l.length) ∧ w' = w := by
    intro w; rw [hll]; exact min3_any _ _ _ w
  have HM := hide HM0
  clear HM0
  rw [← hll] at q0 q1 q2
  have hES : E.length = S.length := hL.2.2.1.1.symm
  have hSl := hL.2.2.2.2.2
  have hTl : T.length ≤ 1000000000 := Nat.le_trans hL.2.2.2.2.1 hpre
  rw [hES]
  clear hll
  have HES := hide hES
  clear hES
  go_enter Try.func31, Try.ntmps31
  go_wp2
  go_loopw [17] (fun i wr => ∃ k q : Nat, k ≤ S.length ∧ i = .int .i64 k ∧ wr = w.drewN q) (fun i _ => S.length - (intOf i).toNat)
  case atStart => exact ⟨0, 0, Nat.zero_le _, rfl, rfl⟩
  case round =>
    obtain ⟨k, q, hk, rfl, rfl⟩ := hrel
    by_cases hlt : k < S.length
    · obtain ⟨z, hz⟩ : ∃ z, E[k]? = some z := ⟨_, List.getElem?_eq_getElem (by rw [HES.out]; exact hlt)⟩
      obtain ⟨b1, off1, rfl, c1⟩ := hNG k z hz
      obtain ⟨b2, off2, rfl, c2⟩ := hNE k z hz
      have hki : (k : Int) < S.length := by omega
      clear hz
      go_wp2
      go_region
      all_goals go_wp2
      go_roundw
      case rel => exact ⟨k + 1, q + 1, by omega, by go_num, rfl⟩
      case measure => simp [intOf]; omega
    · have hb0 : Below w.heap.size w (w.drewN q) := below_drewN (Below.refl _ _) q
      go_wp2
      go_loopw [18, 19, 20] (fun lo bg i wr => ∃ g : Nat, g ≤ S.length ∧ i = .int .i64 g ∧ lo = .int .i64 (loOf S g : Nat) ∧ bg = .int .i64 (beginOf E g : Nat) ∧ Below w.heap.size w wr) (fun _ _ i _ => S.length - (intOf i).toNat)
      case atStart => exact ⟨0, Nat.zero_le _, rfl, rfl, rfl, hb0⟩
      case round =>
        clear hb0 hlt hk
        obtain ⟨g, hg, rfl, rfl, rfl, hbel⟩ := hrel
        by_cases hgl : g < S.length
        · obtain ⟨s, hs⟩ : ∃ s, S[g]? = some s := ⟨_, List.getElem?_eq_getElem hgl⟩
          obtain ⟨e, he⟩ : ∃ e, E[g]? = some e := ⟨_, List.getElem?_eq_getElem (by rw [HES.out]; exact hgl)⟩
          obtain ⟨p1, p2, p3, p4, p5⟩ := hL.2.2.1.2 g s e hs he
          obtain ⟨bS, offS, rfl, cS⟩ := hNS g s hs
          obtain ⟨bE, offE, rfl, cE⟩ := hNE g e he
          have gS : bS < w.heap.size := World.block_lt_of_cell? _ _ cS
          have gE : bE < w.heap.size := World.block_lt_of_cell? _ _ cE
          have cR := hrs.cell hs
          have gG := hrs.lt
          have gA := har.lt
          have HLO := hide (loOf_succ hs)
          have HBG := hide (beginOf_succ he)
          obtain ⟨lo, hlo⟩ : ∃ lo, loOf S g = lo := ⟨_, rfl⟩
          obtain ⟨bg, hbg⟩ : ∃ bg, beginOf E g = bg := ⟨_, rfl⟩
          rw [hlo] at p1 p5 cR ⊢
          rw [hbg] at p3 p5 ⊢
          have HP5 := hide p5
          have dS := (hbel.cell (p := ⟨bS, offS + g, none⟩) gS).trans cS
          have dR := (hbel.cell (p := ⟨G, g, none⟩) gG).trans cR
          have hgi : (g : Int) < S.length := by omega
          have t1 : (((s - lo : Nat) : Int) != (s : Int) - (lo : Int)) = false := by
            have : ((s - lo : Nat) : Int) = (s : Int) - (lo : Int) := by omega
            rw [this]; simp
          have t2 : decide (s < lo) = false := by simp; omega
          have t3 : decide ((s : Int) < (lo : Int)) = false := by simp; omega
          clear hs he hlo hbg p5
          go_wp2
          clear dR t1 t2 t3
          go_loopw [23] (fun jv wr => ∃ j : Nat, j ≤ s - lo ∧ jv = .int .i64 j ∧ Below w.heap.size w wr) (fun jv _ => (s - lo) - (intOf jv).toNat)
          case atStart => exact ⟨0, Nat.zero_le _, rfl, hbel⟩
          case round =>
            clear hbel dS
            obtain ⟨j, hj, rfl, hbel⟩ := hrel
            by_cases hjl : j < s - lo
            · obtain ⟨x, hx⟩ : ∃ x, l[lo + j]? = some x := ⟨_, List.getElem?_eq_getElem (by omega)⟩
              obtain ⟨y0, y1, y2⟩ := hZ _ x hx
              obtain ⟨b0, o0, rfl, c0, _⟩ := hF _ _ y0
              obtain ⟨b1, o1, rfl, c1⟩ := hN _ _ y1
              obtain ⟨b2, o2, rfl, c2, _⟩ := hV _ _ y2
              obtain ⟨c3, c4, c5⟩ := har.cells hx
              replace c0 := (hbel.cell (World.block_lt_of_cell? _ _ c0)).trans c0
              replace c1 := (hbel.cell (World.block_lt_of_cell? _ _ c1)).trans c1
              replace c2 := (hbel.cell (World.block_lt_of_cell? _ _ c2)).trans c2
              replace c3 := (hbel.cell (World.block_lt_of_cell? _ _ c3)).trans c3
              replace c4 := (hbel.cell (World.block_lt_of_cell? _ _ c4)).trans c4
              replace c5 := (hbel.cell (World.block_lt_of_cell? _ _ c5)).trans c5
              rw [Nat.add_mul] at c3 c4 c5
              have n0 := World.new_ne _ _ c0
              have n1 := World.new_ne _ _ c1
              have n2 := World.new_ne _ _ c2
              have n3 := World.new_ne _ _ c3
              have n4 := World.new_ne _ _ c4
              have n5 := World.new_ne _ _ c5
              have i0 : (0 : Int) ≤ (lo : Int) + j := by omega
              have i1 : (lo : Int) + j < fs.length := by omega
              have i2 : (lo : Int) + j < zs.length := by omega
              have i3 : (lo : Int) + j < vs.length := by omega
              have i4 : (j : Int) < ((s - lo : Nat) : Int) := by omega
              have i5 : IntKind.i64.wrap ((lo : Int) + j) = (lo : Int) + j := wrapSum _ (by omega) (by omega)
              have i6 : ((lo : Int) + j).toNat = lo + j := by omega
              clear hx y0 y1 y2
              go_wp2
              go_region_held3 (fun w' => w'.cell? ⟨b0, o0 + (lo + j), none⟩ = some (.string x.f) ∧ w'.cell? ⟨b1, o1 + (lo + j), none⟩ = some (.int .u8 x.c) ∧ w'.cell? ⟨b2, o2 + (lo + j), none⟩ = some (.string x.v) ∧ w'.cell? ⟨A, lo * 3 + j * 3, none⟩ = some (.string x.f) ∧ w'.cell? ⟨A, lo * 3 + j * 3 + 1, none⟩ = some (.int .u8 x.c) ∧ w'.cell? ⟨A, lo * 3 + j * 3 + 2, none⟩ = some (.string x.v)) (go_keep)
                ((go_at_call 36; refine (sameAlt_any x.f x.v x.c _).mono ?_; rintro e w' ⟨rfl, rfl⟩))
              all_goals go_wp2
              go_roundw
              case rel => exact ⟨j + 1, by omega, by go_num, (hbel.alloc hbel.size _).drew⟩
              case measure => simp [intOf]; omega
            · have hbe : bg < e := by
                have hlen := congrArg List.length HP5.out
                have hp := txt_pos ((l.take s).drop lo) (by
                  intro h
                  have := congrArg List.length h
                  rw [List.length_drop, List.length_take, List.length_nil] at this
                  omega)
                rw [← hlen, List.length_take] at hp
                omega
              obtain ⟨zt, hzt⟩ : ∃ z, T[bg]? = some z := ⟨_, List.getElem?_eq_getElem (by omega)⟩
              obtain ⟨bT, offT, rfl, cT⟩ := hT bg zt hzt
              have dE := (hbel.cell (p := ⟨bE, offE + g, none⟩) gE).trans cE
              have dR := (hbel.cell (p := ⟨G, g, none⟩) gG).trans cR
              have hGw : G < wr.heap.size := Nat.lt_of_lt_of_le gG hbel.size
              have hEw : bE < wr.heap.size := Nat.lt_of_lt_of_le gE hbel.size
              have HAR := hide (har.below hbel)
              have HTT := hide (hT.below hbel)
              have hse : s - lo - (s - lo) = 0 := by omega
              have i0 : (0 : Int) ≤ (bg : Int) := by omega
              have i1 : (bg : Int) ≤ (e : Int) := by omega
              have i2 : (e : Int) ≤ (T.length : Int) := by omega
              have i3 : (e : Int) ≤ (capT : Int) := by omega
              have hcp : ¬ capT = bg := by omega
              clear hzt cT hse
              go_wp2
              go_region_held3 (fun w' => w'.cell? ⟨G, g, none⟩ = some (.slice (some ⟨A, lo * 3, none⟩) (s - lo) (s - lo)) ∧ w'.cell? ⟨bE, offE + g, none⟩ = some (.int .i64 (e : Int))) (go_keep)
                ((first
                  | (go_at_call 17; refine (textSeg_any A lo s bg e l T _ (by omega) hpre p2 (by exact HAR.out) hz HP5.out p4).mono ?_; rintro r w1 ⟨⟨ao, capP, rfl, hnp⟩, hb1⟩; have k1 := (hb1.cell (p := ⟨G, g, none⟩) hGw).trans dR; have k2 := (hb1.cell (p := ⟨bE, offE + g, none⟩) hEw).trans dE)
                  | (go_at_call 23; refine (sameBytes_n _ _ ((T.drop bg).take (e - bg)) _ _ _ _ (by rw [List.length_take, List.length_drop]; omega) (by omega) (by assumption) (by exact Nums.sub (HTT.out.below (below_undrew hb1)) bg (e - bg))).mono ?_; rintro r w2 ⟨rfl, m, rfl⟩)))
              all_goals go_wp2
              go_roundw
              case rel => exact ⟨g + 1, by omega, by go_num, by rw [HLO.out], by rw [HBG.out]; go_num, below_drewN (hbel.trans (Below.mono (below_undrew hb1) hbel.size)) m⟩
              case measure => simp [intOf]; omega
        · have eg : g = S.length := by omega
          subst eg
          have hlo : loOf S S.length = l.length := hL.2.2.2.1
          rw [hlo]
          clear hlo
          go_wp2_with (go_at_call 21; refine (HM.out _).mono ?_; rintro e w' ⟨rfl, hw⟩; obtain rfl := hw.symm; clear hw)
          go_ret
          exact ⟨ret_bool (by simp), hbel⟩
end Go.Proofs.Qxb6600096a
