/-
  ZZTake: the walk.
-/
import Derived.Test.Qxb6600096aTake
namespace Go.Proofs.Qxb6600096a
open Go.RowKit

theorem Try.info63 : (Try.prog.info? 63).map (fun i => (i.zero, i.size, i.bytes)) = some (some (.agg #[.int .i64 0, .int .i64 0, .int .i64 0, .int .i64 0, .int .u8 0, .bool false]), 6, 40) := by kernel_rfl
theorem make_spans' (n : Nat) (hn : n ≤ 65536) (w : World) :
    (Instr.makeSlice 59 (.int .i64 (n : Int)) (.int .i64 (n : Int))).run Try.prog w = .ok (.slice (some ⟨w.heap.size, 0, none⟩) n n) (w.alloc (.cells (madeCells #[.int .i64 0, .int .i64 0, .int .i64 0, .int .i64 0, .int .u8 0, .bool false] (n * 6)) 63)) := by
  obtain ⟨i, hi, hz0, hz1, hz2⟩ := info_parts Try.info63
  have hr := run_make (P := Try.prog) w 59 63 i _ Try.underlying59 hi hz0 .i64 .i64 n n (by omega) (Int.le_refl _) (by rw [hz2]; omega) (by omega)
  simp only [Int.toNat_natCast, hz1] at hr
  exact hr

/-- The scratch in a block of its own. -/
def ScBox (w : World) (c B n : Nat) (vS vE : Value) : Prop := w.heap[c]? = some (Obj.cells #[.slice (some ⟨B, 0, none⟩) n n, vS, vE] 61 (0, 0))
theorem ScBox.cells {w : World} {c B n : Nat} {vS vE : Value} (h : ScBox w c B n vS vE) : w.cell? ⟨c, 0, none⟩ = some (.slice (some ⟨B, 0, none⟩) n n) ∧ w.cell? ⟨c, 1, none⟩ = some vS ∧ w.cell? ⟨c, 2, none⟩ = some vE := by
  unfold ScBox at h
  exact ⟨(cell_of_row _ _ 0 _ 61 (0, 0) h).trans rfl, (cell_of_row _ _ 1 _ 61 (0, 0) h).trans rfl, (cell_of_row _ _ 2 _ 61 (0, 0) h).trans rfl⟩

theorem ScBox.set1 {w : World} {c B n : Nat} {vS vE : Value} (h : ScBox w c B n vS vE) {g : Nat} (hg : c ≠ g) (o : Nat) (u : Value) : ScBox (w.setCell ⟨g, o, none⟩ u) c B n vS vE := by
  unfold ScBox at *
  rw [Below.heap_setCell _ _ _ _ hg]; exact h
theorem ScBox.drew {w : World} {c B n : Nat} {vS vE : Value} (h : ScBox w c B n vS vE) : ScBox w.drew c B n vS vE := h
theorem ScBox.set6 {w : World} {c B n : Nat} {vS vE : Value} (h : ScBox w c B n vS vE) {g : Nat} (hg : c ≠ g) (o0 o1 o2 o3 o4 o5 : Nat) (u0 u1 u2 u3 u4 u5 : Value) :
    ScBox ((((((w.setCell ⟨g, o0, none⟩ u0).setCell ⟨g, o1, none⟩ u1).setCell ⟨g, o2, none⟩ u2).setCell ⟨g, o3, none⟩ u3).setCell ⟨g, o4, none⟩ u4).setCell ⟨g, o5, none⟩ u5).drew c B n vS vE :=
  ((((((h.set1 hg o0 u0).set1 hg o1 u1).set1 hg o2 u2).set1 hg o3 u3).set1 hg o4 u4).set1 hg o5 u5).drew

theorem RetTake.lift {B : Nat} {l : List Alt} {S E : List Nat} {w w1 w' : World} {e : Ending} (h : RetTake w1.heap.size l S E w1 e w') (hb : Below B w w1) (hB : B ≤ w1.heap.size) : RetTake B l S E w e w' := by
  obtain ⟨A, G, vG, he, hA, hAG, hr, ha, ho, hb1⟩ := h
  exact ⟨A, G, vG, he, by omega, hAG, hr, ha, ho, hb.trans (hb1.mono hB)⟩

set_option maxRecDepth 100000 in
set_option maxHeartbeats 1000000 in
theorem zzTake_any (gs : Nat) (l : List Alt) (P S E : List Nat) (T : List Int) (aS aE : Option Addr) (capS capE : Nat) (tx : ByteArray) (w : World)
    (hl : l.length ≤ 65536) (hsp : SpRow 57 w gs l l.length P) (htx : bts tx = T) (hNS : NumsN w aS S) (hNE : NumsN w aE E) (hL : Laid l T S E P) (hTl : tx.size ≤ 1000000000) :
    Calls Try.prog 30 #[.string tx, .slice (some ⟨gs, 0, none⟩) l.length l.length, .slice aS S.length capS, .slice aE E.length capE] w fun e w' => RetTake w.heap.size l S E w e w' := by
  have hmk := make_spans' l.length hl
  go_enter Try.func30, Try.ntmps30
  go_wp2
  go_loopw [21] (fun i wr => ∃ k : Nat, k ≤ l.length ∧ i = .int .i64 k ∧ SpRow 63 wr w.heap.size l k (P.take k) ∧ ScBox wr (w.heap.size + 1) w.heap.size l.length (.slice aS S.length capS) (.slice aE E.length capE) ∧ Below w.heap.size w wr) (fun i _ => l.length - (intOf i).toNat)
  case atStart =>
    have h0 := (SpRow.start 63 w l (madeCells #[.int .i64 0, .int .i64 0, .int .i64 0, .int .i64 0, .int .u8 0, .bool false] (l.length * 6)) (size_madeCells _ _))
    have hb0 := (Below.refl w.heap.size w).alloc (Nat.le_refl _) (.cells (madeCells #[.int .i64 0, .int .i64 0, .int .i64 0, .int .i64 0, .int .u8 0, .bool false] (l.length * 6)) 63)
    exact ⟨0, Nat.zero_le _, rfl, h0.alloc _, by
      have h := heap_alloc_new (w.alloc (.cells (madeCells #[.int .i64 0, .int .i64 0, .int .i64 0, .int .i64 0, .int .u8 0, .bool false] (l.length * 6)) 63)) (.cells #[.slice (some ⟨w.heap.size, 0, none⟩) l.length l.length, .slice aS S.length capS, .slice aE E.length capE] 61)
      rw [show (w.alloc (.cells (madeCells #[.int .i64 0, .int .i64 0, .int .i64 0, .int .i64 0, .int .u8 0, .bool false] (l.length * 6)) 63)).heap.size = w.heap.size + 1 by simp] at h
      exact h, hb0.alloc (by simp) _⟩
  case round =>
    obtain ⟨k, hk, rfl, hsr, hbx, hbel⟩ := hrel
    by_cases hlt : k < l.length
    · obtain ⟨x, hx⟩ : ∃ x, l[k]? = some x := ⟨_, List.getElem?_eq_getElem hlt⟩
      obtain ⟨p, hp⟩ : ∃ p, P[k]? = some p := ⟨_, List.getElem?_eq_getElem (by rw [hL.1]; exact hlt)⟩
      obtain ⟨FS, hgr, hFS⟩ := id hsp
      obtain ⟨s0, s1, s2, s3, s4, be, s5, hbe⟩ := hFS k p x hlt hx hp
      have hgp := hgr.lt
      have c0 := (hbel.cell (p := ⟨gs, k * 6, none⟩) hgp).trans (hgr.cell (i := k * 6) (by omega))
      have c1 := (hbel.cell (p := ⟨gs, k * 6 + 1, none⟩) hgp).trans (hgr.cell (i := k * 6 + 1) (by omega))
      have c2 := (hbel.cell (p := ⟨gs, k * 6 + 2, none⟩) hgp).trans (hgr.cell (i := k * 6 + 2) (by omega))
      have c3 := (hbel.cell (p := ⟨gs, k * 6 + 3, none⟩) hgp).trans (hgr.cell (i := k * 6 + 3) (by omega))
      have c4 := (hbel.cell (p := ⟨gs, k * 6 + 4, none⟩) hgp).trans (hgr.cell (i := k * 6 + 4) (by omega))
      have c5 := (hbel.cell (p := ⟨gs, k * 6 + 5, none⟩) hgp).trans (hgr.cell (i := k * 6 + 5) (by omega))
      rw [s0] at c0; rw [s1] at c1; rw [s2] at c2; rw [s3] at c3; rw [s4] at c4; rw [s5] at c5
      obtain ⟨d0, _, _⟩ := hbx.cells
      obtain ⟨FB, hrb, _⟩ := id hsr
      have r0 := hrb.cell (i := k * 6) (by omega)
      have r1 := hrb.cell (i := k * 6 + 1) (by omega)
      have r2 := hrb.cell (i := k * 6 + 2) (by omega)
      have r3 := hrb.cell (i := k * 6 + 3) (by omega)
      have r4 := hrb.cell (i := k * 6 + 4) (by omega)
      have r5 := hrb.cell (i := k * 6 + 5) (by omega)
      have f0 := hrb.frozen (k * 6)
      have f1 := hrb.frozen (k * 6 + 1)
      have f2 := hrb.frozen (k * 6 + 2)
      have f3 := hrb.frozen (k * 6 + 3)
      have f4 := hrb.frozen (k * 6 + 4)
      have f5 := hrb.frozen (k * 6 + 5)
      have hki : (k : Int) < l.length := by omega
      have HX := hide hx
      have HP := hide hp
      have HBE := hide hbe
      have hPk : (P.take k).length = k := by rw [List.length_take, hL.1]; omega
      have hPs : P.take (k + 1) = P.take k ++ [p] := by rw [List.take_add_one, hp]; rfl
      have HN := hide (hsr.step (p := p) hx hPk be hbe)
      rw [← hPs] at HN
      have HB6 := hide (below_set6 hbel (Nat.le_refl _) (k * 6) (k * 6 + 1) (k * 6 + 2) (k * 6 + 3) (k * 6 + 4) (k * 6 + 5) (.int .i64 (p : Int)) (.int .i64 ((p : Int) + x.f.size)) (.int .i64 ((p : Int) + x.f.size + 1)) (.int .i64 ((p : Int) + (altT x).length)) (.int .u8 x.c) (.bool be))
      have HBX : Hid (ScBox ((((((wr.setCell ⟨w.heap.size, k * 6, none⟩ (.int .i64 (p : Int))).setCell ⟨w.heap.size, k * 6 + 1, none⟩ (.int .i64 ((p : Int) + x.f.size))).setCell ⟨w.heap.size, k * 6 + 2, none⟩ (.int .i64 ((p : Int) + x.f.size + 1))).setCell ⟨w.heap.size, k * 6 + 3, none⟩
          (.int .i64 ((p : Int) + (altT x).length))).setCell ⟨w.heap.size, k * 6 + 4, none⟩ (.int .u8 x.c)).setCell ⟨w.heap.size, k * 6 + 5, none⟩ (.bool be)).drew (w.heap.size + 1) w.heap.size l.length (.slice aS S.length capS) (.slice aE E.length capE)) := by
        exact hbx.set6 (by omega) _ _ _ _ _ _ _ _ _ _ _ _
      have hne1 : ¬ gs = w.heap.size := by omega
      have hne2 : ¬ w.heap.size = gs := by omega
      clear hPk hPs
      clear hx hp hbe s0 s1 s2 s3 s4 s5 hFS hgr hrb
      go_wp2
      go_region_held3 (fun w' => w'.cell? ⟨gs, k * 6, none⟩ = some (.int .i64 (p : Int)) ∧ w'.cell? ⟨gs, k * 6 + 1, none⟩ = some (.int .i64 ((p : Int) + x.f.size)) ∧ w'.cell? ⟨gs, k * 6 + 2, none⟩ = some (.int .i64 ((p : Int) + x.f.size + 1)) ∧ w'.cell? ⟨gs, k * 6 + 3, none⟩ = some (.int .i64 ((p : Int) + (altT x).length)) ∧ w'.cell? ⟨gs, k * 6 + 4, none⟩ = some (.int .u8 x.c) ∧ w'.cell? ⟨gs, k * 6 + 5, none⟩ = some (.bool be) ∧ w'.cell? ⟨w.heap.size + 1, 0, none⟩ = some (.slice (some ⟨w.heap.size, 0, none⟩) l.length l.length)) (go_keep) (fail)
      all_goals go_wp2
      go_roundw
      case rel => exact ⟨k + 1, by omega, by go_num, HN.out, HBX.out, HB6.out⟩
      case measure => simp [intOf]; omega
    · have e : k = l.length := by omega
      subst e
      have hPt : P.take l.length = P := List.take_of_length_le (by rw [hL.1]; exact Nat.le_refl _)
      rw [hPt] at hsr
      obtain ⟨d0, d1, d2⟩ := hbx.cells
      have hNS' := hNS.below hbel
      have hNE' := hNE.below hbel
      have hbs := hbel.size
      clear hPt hmk hbx
      go_wp2_with fail
      refine (take_any (w.heap.size + 1) w.heap.size l P S E T aS aE capS capE tx _ hl d0 d1 d2 hsr htx hNS' hNE' hL hTl).mono ?_
      rintro e w' hret
      obtain ⟨A, G, vG, rfl, hA, hAG, hr, ha, ho, hb1⟩ := hret.lift hbel hbs
      go_wp2
      go_ret2
      exact ⟨A, G, vG, rfl, hA, hAG, hr, ha, ho, hb1⟩
end Go.Proofs.Qxb6600096a
