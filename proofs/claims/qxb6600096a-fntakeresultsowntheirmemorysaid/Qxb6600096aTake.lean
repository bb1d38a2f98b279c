/-
  (*scratch).take: the walk.
-/
import Derived.Test.Qxb6600096aTakeKit
import Derived.Deep.RegionHeld3
import Derived.Deep.DrawnRows
namespace Go.Proofs.Qxb6600096a
open Go.RowKit
attribute [local go_sem ↓] Go.wp_at_zero Go.wp_at_succ

set_option maxRecDepth 100000 in
set_option maxHeartbeats 1000000 in
theorem take_any (c gp : Nat) (l : List Alt) (P S E : List Nat) (T : List Int) (aS aE : Option Addr) (capS capE : Nat) (tx : ByteArray) (w : World)
    (hl : l.length ≤ 65536) (hsc0 : w.cell? ⟨c, 0, none⟩ = some (.slice (some ⟨gp, 0, none⟩) l.length l.length)) (hsc1 : w.cell? ⟨c, 1, none⟩ = some (.slice aS S.length capS)) (hsc2 : w.cell? ⟨c, 2, none⟩ = some (.slice aE E.length capE))
    (hsp : SpRow 63 w gp l l.length P) (htx : bts tx = T) (hNS : NumsN w aS S) (hNE : NumsN w aE E) (hL : Laid l T S E P) (hTl : tx.size ≤ 1000000000) :
    Calls Try.prog 35 #[.pointer (some ⟨c, 0, none⟩), .string tx] w fun e w' => RetTake w.heap.size l S E w e w' := by
  have hmk := make_alts l.length hl
  have hlc : c < w.heap.size := World.block_lt_of_cell? _ _ hsc0
  go_enter Try.func35, Try.ntmps35
  go_wp2
  go_loopw [25] (fun i wr => ∃ k : Nat, k ≤ l.length ∧ i = .int .i64 k ∧ AltRow wr w.heap.size l k ∧ Below w.heap.size w wr) (fun i _ => l.length - (intOf i).toNat)
  case atStart => exact ⟨0, Nat.zero_le _, rfl, AltRow.start w l, (Below.refl _ _).alloc (Nat.le_refl _) _⟩
  case round =>
    obtain ⟨k, hk, rfl, hrow, hbel⟩ := hrel
    by_cases hlt : k < l.length
    · obtain ⟨x, hx⟩ : ∃ x, l[k]? = some x := ⟨_, List.getElem?_eq_getElem hlt⟩
      obtain ⟨p, hp⟩ : ∃ p, P[k]? = some p := ⟨_, List.getElem?_eq_getElem (by rw [hL.1]; exact hlt)⟩
      obtain ⟨FS, hsr, hFS⟩ := id hsp
      obtain ⟨s0, s1, s2, s3, s4, be, s5, hbe⟩ := hFS k p x hlt hx hp
      have hgp := hsr.lt
      have c0 := (hbel.cell (p := ⟨gp, k * 6, none⟩) hgp).trans (hsr.cell (i := k * 6) (by omega))
      have c1 := (hbel.cell (p := ⟨gp, k * 6 + 1, none⟩) hgp).trans (hsr.cell (i := k * 6 + 1) (by omega))
      have c2 := (hbel.cell (p := ⟨gp, k * 6 + 2, none⟩) hgp).trans (hsr.cell (i := k * 6 + 2) (by omega))
      have c3 := (hbel.cell (p := ⟨gp, k * 6 + 3, none⟩) hgp).trans (hsr.cell (i := k * 6 + 3) (by omega))
      have c4 := (hbel.cell (p := ⟨gp, k * 6 + 4, none⟩) hgp).trans (hsr.cell (i := k * 6 + 4) (by omega))
      have c5 := (hbel.cell (p := ⟨gp, k * 6 + 5, none⟩) hgp).trans (hsr.cell (i := k * 6 + 5) (by omega))
      rw [s0] at c0; rw [s1] at c1; rw [s2] at c2; rw [s3] at c3; rw [s4] at c4; rw [s5] at c5
      have d0 := (hbel.cell (p := ⟨c, 0, none⟩) hlc).trans hsc0
      obtain ⟨FA, hra, _⟩ := id hrow
      have r0 := hra.cell (i := k * 3) (by omega)
      have r1 := hra.cell (i := k * 3 + 1) (by omega)
      have r2 := hra.cell (i := k * 3 + 2) (by omega)
      have f0 := hra.frozen (k * 3)
      have f1 := hra.frozen (k * 3 + 1)
      have f2 := hra.frozen (k * 3 + 2)
      have hk4 : (k : Int) < l.length := by omega
      have hst := hL.2.1 k p x hp hx
      have htl : tx.size = T.length := by rw [← htx, bts_length]
      have hpz : p + (altT x).length ≤ tx.size := by rw [htl]; exact hst.1
      have hroom := alt_room x
      have HST := hide hst.2
      have HX := hide hx
      have HBE := hide hbe
      clear htl hst hx hp s0 s1 s2 s3 s4 s5 hFS hsr hbe
      have HRA := hide hra
      clear hra
      have hne1 : ¬ gp = w.heap.size := by omega
      have hne2 : ¬ w.heap.size = gp := by omega
      have i0 : (0 : Int) ≤ (p : Int) + x.f.size + 1 := by omega
      have i1 : (p : Int) + x.f.size + 1 ≤ (p : Int) + (altT x).length := by omega
      have i2 : (p : Int) + (altT x).length ≤ tx.size := by omega
      go_wp2
      go_region
      all_goals go_wp2
      go_region_held3 (fun w' => w'.cell? ⟨gp, k * 6, none⟩ = some (.int .i64 (p : Int)) ∧ w'.cell? ⟨gp, k * 6 + 1, none⟩ = some (.int .i64 ((p : Int) + x.f.size)) ∧ w'.cell? ⟨gp, k * 6 + 2, none⟩ = some (.int .i64 ((p : Int) + x.f.size + 1)) ∧ w'.cell? ⟨gp, k * 6 + 3, none⟩ = some (.int .i64 ((p : Int) + (altT x).length)) ∧ w'.cell? ⟨gp, k * 6 + 4, none⟩ = some (.int .u8 x.c)) (go_keep)
        ((go_at_call 41; refine (field_any tx gp (k * 6) p x.f.size _ ?_ ?_ (by omega) (by omega)).mono ?_; (simp [*]); (simp [*]); rintro e w' ⟨rfl, rfl⟩))
      obtain ⟨hF, hV⟩ := stands_parts htx HST.out
      have HV := hide hV
      have hVz : (tx.extract (p + x.f.size + 1) (p + (altT x).length)).size ≤ 1073741824 := by
        have h := congrArg List.length hV
        rw [bts_length] at h
        have := altT_len x
        omega
      have hb3 : Below w.heap.size w (((wr.setCell { block := w.heap.size, off := k * 3 } (Value.string (tx.extract p (p + x.f.size)))).setCell { block := w.heap.size, off := k * 3 + 1 } (Value.int IntKind.u8 x.c)).setCell
          { block := w.heap.size, off := k * 3 + 2 } (Value.string (tx.extract (p + x.f.size + 1) (p + (altT x).length)))).drew.drew.drew :=
        (((hbel.setCell (p := ⟨w.heap.size, k * 3, none⟩) (Nat.le_refl _) _).setCell (p := ⟨w.heap.size, k * 3 + 1, none⟩) (Nat.le_refl _) _).setCell (p := ⟨w.heap.size, k * 3 + 2, none⟩) (Nat.le_refl _) _).drew.drew.drew
      cases be with
      | false =>
        have e2 : tx.extract (p + x.f.size + 1) (p + (altT x).length) = x.v := bts_inj (by rw [HV.out]; exact esc_same (by rw [HBE.out rfl, bts_length]))
        have hA := hrow.step HX.out
        have HA : Hid (AltRow (((wr.setCell { block := w.heap.size, off := k * 3 } (Value.string (tx.extract p (p + x.f.size)))).setCell { block := w.heap.size, off := k * 3 + 1 } (Value.int IntKind.u8 x.c)).setCell
          { block := w.heap.size, off := k * 3 + 2 } (Value.string (tx.extract (p + x.f.size + 1) (p + (altT x).length)))).drew.drew.drew w.heap.size l (k + 1)) := by
          rw [hF, e2]; exact hA
        clear hA e2 hF hV
        go_wp2
        go_roundw
        case rel => exact ⟨k + 1, by omega, by go_num, HA.out, hb3⟩
        case measure => simp [intOf]; omega
      | true =>
        have hm3 : AltMid (((wr.setCell { block := w.heap.size, off := k * 3 } (Value.string (tx.extract p (p + x.f.size)))).setCell { block := w.heap.size, off := k * 3 + 1 } (Value.int IntKind.u8 x.c)).setCell
          { block := w.heap.size, off := k * 3 + 2 } (Value.string (tx.extract (p + x.f.size + 1) (p + (altT x).length)))).drew.drew.drew w.heap.size l k x (tx.extract (p + x.f.size + 1) (p + (altT x).length)) := by
          rw [hF]; exact hrow.mid _
        have HM3 := hide hm3
        clear hm3 hF hV
        go_wp2_with fail
        refine (unesc_any _ x.v _ HV.out hVz).mono ?_
        rintro e w2 ⟨rfl, hb4⟩
        have hm4 := HM3.out.below hb4
        have hb5 := hb3.trans (hb4.mono hb3.size)
        obtain ⟨FB, hrB, _⟩ := id hm4
        have t2 := hrB.cell (i := k * 3 + 2) (by omega)
        have tf := hrB.frozen (k * 3 + 2)
        have hA := hm4.fix HX.out
        have hb6 := hb5.setCell (p := ⟨w.heap.size, k * 3 + 2, none⟩) (Nat.le_refl _) (.string x.v)
        have HA := hide hA
        clear hA hb4 hb5 hb3 hm4 hrB
        go_wp2
        go_roundw
        case rel => exact ⟨k + 1, by omega, by go_num, HA.out, hb6⟩
        case measure => simp [intOf]; omega
    · have e : k = l.length := by omega
      subst e
      have hmk2 := make_rs S.length (by have := hL.2.2.2.2.2; omega)
      have hSl := hL.2.2.2.2.2
      have e1 := (hbel.cell (p := ⟨c, 1, none⟩) hlc).trans hsc1
      have e1' := fun o => cell_alloc e1 o
      have hB := hrow.lt
      obtain ⟨G, hG⟩ : ∃ G, wr.heap.size = G := ⟨_, rfl⟩
      have hrs := RsRow.start wr w.heap.size S
      have har := hrow.below ((Below.refl _ _).alloc (Nat.le_refl _) (.cells (madeCells #[.slice none 0 0] (S.length * 1)) 32))
      have hb2 := hbel.alloc hbel.size (.cells (madeCells #[.slice none 0 0] (S.length * 1)) 32)
      have hBG : w.heap.size < wr.heap.size := hB
      simp only [Nat.mul_one] at hrs har hb2
      rw [hG] at hrs hBG
      clear hrow hbel hB
      go_wp2
      clear hG
      go_loopw [11, 87] (fun st i wq => ∃ g : Nat, g ≤ S.length ∧ i = .int .i64 g ∧ st = .int .i64 (loOf S g : Nat) ∧ RsRow wq G w.heap.size S g ∧ AltRow wq w.heap.size l l.length ∧ Below w.heap.size w wq) (fun _ i _ => S.length - (intOf i).toNat)
      case atStart => exact ⟨0, Nat.zero_le _, rfl, rfl, hrs, har, hb2⟩
      case round =>
        clear hrs har hb2 hmk hmk2 e1 e1'
        obtain ⟨g, hg, rfl, rfl, hrs, har, hb2⟩ := hrel
        by_cases hgl : g < S.length
        · obtain ⟨s, hs⟩ : ∃ s, S[g]? = some s := ⟨_, List.getElem?_eq_getElem hgl⟩
          obtain ⟨e, he⟩ : ∃ e, E[g]? = some e := ⟨_, List.getElem?_eq_getElem (by rw [← hL.2.2.1.1]; exact hgl)⟩
          obtain ⟨q1, q2, _⟩ := hL.2.2.1.2 g s e hs he
          obtain ⟨bS, offS, rfl, cS⟩ := hNS g s hs
          replace cS := (hb2.cell (World.block_lt_of_cell? _ _ cS)).trans cS
          have HN := hide (hrs.step hs)
          have HLO := hide (loOf_succ hs)
          obtain ⟨lo, hlo⟩ : ∃ lo, loOf S g = lo := ⟨_, rfl⟩
          rw [hlo] at q1
          have hlo2 := hlo
          have HLO2 := hide hlo2
          rw [hlo]
          obtain ⟨FR, hrr, _⟩ := id hrs
          have t0 := hrr.cell (i := g) hgl
          have tf := hrr.frozen g
          have hgi : (g : Int) < S.length := by omega
          have hcap : ¬ l.length = lo := by omega
          have hcap2 : ¬ lo = l.length := by omega
          clear hs he hlo hlo2 hrr
          go_wp2
          go_roundw
          case rel => exact ⟨g + 1, by omega, by go_num, by rw [HLO.out], by have := HN.out; rw [HLO2.out] at this; exact this, har.setOther (by omega) _ _, hb2.setCell (p := ⟨G, g, none⟩) (by exact Nat.le_of_lt hBG) _⟩
          case measure => simp [intOf]; omega
        · have e : g = S.length := by omega
          subst e
          have e2 := (hb2.cell (p := ⟨c, 2, none⟩) hlc).trans hsc2
          have hE2 := hNE.below (hb2.mono (Nat.le_refl _))
          have hEl : E.length ≤ 1000000 := by have := hL.2.2.1.1; omega
          have hGl := hrs.lt
          go_wp2_with (go_at_call 42; refine (clone_any _ _ _ _ hE2 hEl).mono ?_; rintro e w3 ⟨⟨v, rfl, ho⟩, hb3⟩)
          have hb4 := hb2.trans (hb3.mono hb2.size)
          have hrs3 := hrs.below hb3
          have har3 := har.below hb3
          have ho' : OwnI (G + 1) w3 v E := by
            refine ⟨ho.1, ?_⟩
            rcases ho.2 with h2 | ⟨g, cap, cur, hv, hg, r⟩
            · exact .inl h2
            · exact .inr ⟨g, cap, cur, hv, by omega, r⟩
          go_ret2
          exact ⟨w.heap.size, G, v, rfl, Nat.le_refl _, hBG, hrs3, har3, ho', hb4⟩
end Go.Proofs.Qxb6600096a
