/-
  normalizeName answers with the normal form.
-/
import Derived.Test.Qxb6601275aNameKit
namespace Go.Proofs.Qxb6601275a
open Go.RowKit

def strLen : Value → Nat
  | .string t => t.size
  | _ => 0
theorem idx_call {t : ByteArray} {a : Nat} {i : Int} (w : World) (h : Lib.indexByte (t.extract a t.size).data.toList 47 = i) :
    Calls Try.prog 29 #[.string (t.extract a t.size), .int .u8 47] w fun e w' => e = .returned (.int .i64 i) ∧ w' = w := by
  have := Try.strings_IndexByte (t.extract a t.size) 47 w
  rwa [show (47 : Int).toNat.toUInt8 = 47 from rfl, h] at this
theorem dropped_toList (g : ByteArray) : dropped (bts g) = (g.toList.isEmpty || g.toList == [46]) := by
  have e : g.toList = g.data.toList := by simp [ByteArray.toList_eq]
  rw [e, dropped, bts]
  generalize g.data.toList = l
  match l with
  | [] => rfl
  | [x] =>
    have : (([x] : List UInt8) == [46]) = (x == 46) := by show (x == 46 && true) = _; simp
    rw [this, beqI x 46]
    simp
    rfl
  | x :: y :: r => simp

set_option maxRecDepth 100000 in
set_option maxHeartbeats 1000000 in
theorem name_any (s : ByteArray) (w : World) (hs : s.size ≤ 1048576) :
    Calls Try.prog 22 #[.string s] w fun e w' => RetStr e (norm (bts s)) ∧ Below w.heap.size w w' := by
  go_enter Try.func22, Try.ntmps22
  go_wp2
  go_loop [0] (fun v => ∃ t : ByteArray, v = .string t ∧ t.size ≤ s.size ∧ strip (bts t) = strip (bts s)) (fun v => strLen v)
  case atStart => exact ⟨s, rfl, Nat.le_refl _, rfl⟩
  case round =>
    obtain ⟨t, rfl, htl, hst⟩ := hrel
    have HST := hide hst
    clear hst
    have HH := hide (has_pair t w)
    obtain ⟨b, HB⟩ : ∃ b, Hid (slashB (bts t) 0 = b) := ⟨_, hide rfl⟩
    have HH2 := hide (has_slash t w)
    rw [HB.out] at HH2
    cases hp : pairB (bts t) 0
    · have HS : Hid (strip (bts s) = bts t) := HST.out.symm.trans (by simpa using strip_stop (i := 0) (pair_no hp))
      clear HST
      go_wp2_with fail
      refine HH.out.mono ?_
      rintro e w' ⟨rfl, hw⟩
      obtain rfl := hw.symm
      clear hw
      go_wp2_with fail
      refine HH2.out.mono ?_
      rintro e w' ⟨rfl, hw⟩
      obtain rfl := hw.symm
      clear hw HH HH2 hp
      go_wp2
      go_loopw [5, 6, 7] (fun fv uv av wr => ∃ (f u : Int) (a : Nat), a ≤ t.size + 1 ∧ fv = .int .i64 f ∧ uv = .int .i64 u ∧ av = .int .i64 a ∧ NSt t w wr f u a) (fun _ _ av _ => t.size + 1 - (intOf av).toNat)
      case atStart => exact ⟨-1, -1, 0, by omega, rfl, rfl, rfl, NSt.start t w⟩
      case round =>
        obtain ⟨f, u, a, ha1, rfl, rfl, rfl, hst⟩ := hrel
        have HN := hide hst
        clear hst
        by_cases ha : a ≤ t.size
        · obtain ⟨e, i, he, hidx, hi⟩ := idx_spec t a ha
          have HI := hide (idx_call wr hidx)
          have HIi := hide hi
          have HE := hide he
          have hae := he.1
          have hes := he.2.1
          clear hidx hi he
          go_upto_if 29 with (go_at_call 29; refine HI.out.mono ?_; rintro e1 w1 ⟨rfl, hw⟩; obtain rfl := hw.symm; clear hw)
          go_cut [8, 9] (fun ev _ wx => ev = .int .i64 e ∧ wx = wr)
          case first =>
            rcases HIi.out with ⟨hi, he⟩ | ⟨hi, he⟩
            · have HEE := hide he
              clear he
              go_wp2
              go_meet
              case rel => exact ⟨by rw [HEE.out], rfl⟩
            · have HEE := hide he
              clear he
              have hi2 : i ≤ 1048576 := by have := HEE.out; omega
              go_wp2
              go_meet
              case rel => exact ⟨by have := HEE.out; go_num, rfl⟩
          case rest =>
            obtain ⟨rfl, hw⟩ := hcut
            obtain rfl := hw.symm
            clear hw HIi HI
            have HX := hide (bts_extract t a e)
            go_upto_region 15 with fail
            go_cut [46] (fun c wx => c = .bool (dropped (seg (bts t) a e)) ∧ wx = wr)
            case first =>
              have HD := hide (dropped_toList (t.extract a e))
              rw [HX.out] at HD
              cases hb : (t.extract a e).toList.isEmpty
              · go_wp2
                go_meet
                case rel => exact ⟨val_bool (by rw [HD.out, hb]; rfl), rfl⟩
              · go_wp2
                go_meet
                case rel => exact ⟨val_bool (by rw [HD.out, hb]; rfl), rfl⟩
            case rest =>
              obtain ⟨rfl, hw⟩ := hcut
              obtain rfl := hw.symm
              clear hw
              cases hd : dropped (seg (bts t) a e)
              · obtain ⟨st, hN, hc⟩ := HN.out
                clear HN
                rcases hc with ⟨rfl, rfl, rfl, rfl⟩ | ⟨f0, u0, rfl, rfl, hfu, hua, hut, rfl, rfl⟩ | ⟨r, f0, u0, rfl, rfl, rfl, hr0, hra, hB, hbel⟩
                · obtain ⟨k0, k1⟩ := NRel.first (w := w) hN HE.out hd
                  have K0 := hide k0
                  have K1 := hide k1
                  clear k0 k1 hN
                  cases b
                  · have hst' := hide (K0.out HB.out)
                    clear K0 K1
                    go_wp2
                    go_roundw
                    case rel => exact ⟨_, _, e + 1, by omega, by go_num, by go_num, by go_num, hst'.out⟩
                    case measure => simp [intOf]; omega
                  · obtain ⟨h0, k⟩ := K1.out HB.out
                    have hst' := hide k
                    clear K0 K1 k
                    go_wp2
                    go_roundw
                    case rel => exact ⟨_, _, e + 1, by omega, rfl, by go_num, by go_num, hst'.out⟩
                    case measure => simp [intOf]; omega
                · have h0 : a ≠ 0 := by omega
                  have hN' := hide (hN.more HE.out hd h0)
                  have HFr := hide (Lib.fresh_isBuilder 50 5 w)
                  have HBl := hide ((Below.refl w.heap.size w).alloc (Nat.le_refl _) BO)
                  clear hN
                  by_cases hau : a = u0 + 1
                  · have hst' : Hid (NSt t w (w.alloc BO) f0 e (e + 1)) := by
                      refine ⟨_, hN'.out, .inr (.inl ⟨f0, e, rfl, rfl, by omega, Nat.le_refl _, hes, ?_, rfl⟩)⟩
                      rw [show a - 1 = u0 by omega, ← seg_split (by omega) (by omega) (by rw [bts_length]; exact hes)]
                    go_wp2_with fail
                    refine (Try.Builder_Len w.heap.size w.heap.size [] _ HFr.out).mono ?_
                    rintro e1 w1 ⟨rfl, hw⟩
                    obtain rfl := hw.symm
                    clear hw
                    go_wp2
                    go_roundw
                    case rel => exact ⟨_, _, e + 1, by omega, rfl, by go_num, by go_num, hst'.out⟩
                    case measure => simp [intOf]; omega
                  · have hx1 := ext_size (s := t) (a := f0) hut
                    have hx2 := ext_size (s := t) (a := a - 1) hes
                    go_wp2_with fail
                    refine (Try.Builder_Len w.heap.size w.heap.size [] _ HFr.out).mono ?_
                    rintro e1 w1 ⟨rfl, hw⟩
                    obtain rfl := hw.symm
                    clear hw
                    go_wp2_with fail
                    refine (Try.Builder_Grow_fresh w.heap.size w.heap.size t.size _ (Nat.le_refl _) (heap_alloc_new _ _) (by simp) (by omega)).mono ?_
                    rintro e1 w1 ⟨rfl, hbd, hb1⟩
                    have HBD := hide hbd
                    have hb1' := HBl.out.trans hb1
                    have hs1 := hb1'.size
                    clear hbd hb1
                    go_wp2_with fail
                    refine (Try.Builder_WriteString w.heap.size w.heap.size [] (t.extract f0 u0) _ (.inr HBD.out) (by simp only [List.length_nil]; omega) hs1).mono ?_
                    rintro e1 w2 ⟨rfl, hbd, hb2⟩
                    have HBD2 := hide hbd
                    have hb2' := hb1'.trans hb2
                    have hs2 := hb2'.size
                    clear hbd hb2 HBD
                    go_wp2_with fail
                    have hln : ([] ++ Lib.strCells (t.extract f0 u0)).length = u0 - f0 := by rw [List.nil_append, Lib.strCells_length]; exact hx1
                    refine (Try.Builder_WriteString w.heap.size w.heap.size _ (t.extract (a - 1) e) _ (.inr HBD2.out) (by omega) hs2).mono ?_
                    rintro e1 w3 ⟨rfl, hbd, hb3⟩
                    have hb3' := hb2'.trans hb3
                    rw [List.nil_append, ← strCells_append] at hbd
                    have hst' : Hid (NSt t w w3 f0 u0 (e + 1)) := by
                      refine ⟨_, hN'.out, .inr (.inr ⟨t.extract f0 u0 ++ t.extract (a - 1) e, f0, u0, rfl, rfl, ?_, ?_, ?_, .inr hbd, hb3'⟩)⟩
                      · rw [bts_append, bts_extract, bts_extract]
                      · rw [← bts_length, bts_append, List.length_append, bts_length, bts_length]; omega
                      · rw [← bts_length, bts_append, List.length_append, bts_length, bts_length]; omega
                    clear hbd hb3 hb3' HBD2
                    go_wp2
                    go_roundw
                    case rel => exact ⟨_, _, e + 1, by omega, rfl, rfl, by go_num, hst'.out⟩
                    case measure => simp [intOf]; omega
                · have h0 : a ≠ 0 := by omega
                  have hN' := hide (hN.more HE.out hd h0)
                  have hx2 := ext_size (s := t) (a := a - 1) hes
                  have hs2 := hbel.size
                  have hln : (Lib.strCells r).length = r.size := Lib.strCells_length r
                  have HBu := hide hB
                  clear hN hB
                  go_wp2_with fail
                  refine (Try.Builder_Len w.heap.size w.heap.size _ _ HBu.out).mono ?_
                  rintro e1 w1 ⟨rfl, hw⟩
                  obtain rfl := hw.symm
                  clear hw
                  rw [hln]
                  go_wp2_with fail
                  refine (Try.Builder_WriteString w.heap.size w.heap.size _ (t.extract (a - 1) e) _ HBu.out (by omega) hs2).mono ?_
                  rintro e1 w3 ⟨rfl, hbd, hb3⟩
                  have hb3' := hbel.trans hb3
                  rw [← strCells_append] at hbd
                  have hst' : Hid (NSt t w w3 f0 u0 (e + 1)) := by
                    refine ⟨_, hN'.out, .inr (.inr ⟨r ++ t.extract (a - 1) e, f0, u0, rfl, rfl, ?_, ?_, ?_, .inr hbd, hb3'⟩)⟩
                    · rw [bts_append, bts_extract]
                    · rw [← bts_length, bts_append, List.length_append, bts_length, bts_length]; omega
                    · rw [← bts_length, bts_append, List.length_append, bts_length, bts_length]; omega
                  clear hbd hb3 hb3' HBu
                  go_wp2
                  go_roundw
                  case rel => exact ⟨_, _, e + 1, by omega, rfl, rfl, by go_num, hst'.out⟩
                  case measure => simp [intOf]; omega
              · have hst' := hide (HN.out.skip HE.out hd)
                go_wp2
                go_roundw
                case rel => exact ⟨_, _, e + 1, by omega, rfl, rfl, by go_num, hst'.out⟩
                case measure => simp [intOf]; omega
        · have HBel := hide HN.out.below
          obtain ⟨st, hN, hc⟩ := HN.out
          have hfin := hN.done (by rw [bts_length]; exact ha)
          subst hfin
          have HNo : Hid (norm (bts s) = (fin (bts t)).getD (pref (bts t))) := by
            show norm (bts s) = _
            rw [norm, HS.out]
          clear HN hN HS
          rcases hc with ⟨hf, rfl, rfl, rfl⟩ | ⟨f0, u0, rfl, rfl, hfu, hua, hut, hf, rfl⟩ | ⟨r, f0, u0, rfl, rfl, hf, hr0, hra, hB, hbel⟩
          · have HF := hide hf
            clear hf
            have HFr := hide (Lib.fresh_isBuilder 50 5 w)
            cases b
            · have hp : pref (bts t) = [] := by simpa using pref_drop_no (k := 0) HB.out
              have HP := hide hp
              clear hp
              go_wp2_with fail
              refine (Try.Builder_Len w.heap.size w.heap.size [] _ HFr.out).mono ?_
              rintro e1 w1 ⟨rfl, hw⟩
              obtain rfl := hw.symm
              clear hw
              go_wp2
              go_ret
              exact ⟨⟨_, rfl, by rw [HNo.out, HF.out, HP.out]; rfl⟩, HBel.out⟩
            · have hp : pref (bts t) = [47] := by simpa using pref_drop_yes (k := 0) HB.out
              have HP := hide hp
              clear hp
              go_wp2_with fail
              refine (Try.Builder_Len w.heap.size w.heap.size [] _ HFr.out).mono ?_
              rintro e1 w1 ⟨rfl, hw⟩
              obtain rfl := hw.symm
              clear hw
              go_wp2
              go_ret
              exact ⟨⟨_, rfl, by rw [HNo.out, HF.out, HP.out]; rfl⟩, HBel.out⟩
          · have HF := hide hf
            clear hf
            have HFr := hide (Lib.fresh_isBuilder 50 5 w)
            go_wp2_with fail
            refine (Try.Builder_Len w.heap.size w.heap.size [] _ HFr.out).mono ?_
            rintro e1 w1 ⟨rfl, hw⟩
            obtain rfl := hw.symm
            clear hw
            go_wp2
            go_ret
            exact ⟨⟨_, rfl, by rw [HNo.out, HF.out, bts_extract]; rfl⟩, HBel.out⟩
          · have HF := hide hf
            clear hf
            have hs2 := hbel.size
            have hln : (Lib.strCells r).length = r.size := Lib.strCells_length r
            have HBu := hide hB
            clear hB
            go_wp2_with fail
            refine (Try.Builder_Len w.heap.size w.heap.size _ _ HBu.out).mono ?_
            rintro e1 w1 ⟨rfl, hw⟩
            obtain rfl := hw.symm
            clear hw
            rw [hln]
            go_wp2_with fail
            refine (Try.Builder_String_any w.heap.size w.heap.size r.data.toList _ HBu.out hs2).mono ?_
            rintro e1 w3 ⟨rfl, hb3⟩
            go_wp2
            go_ret
            exact ⟨⟨_, rfl, by rw [HNo.out, HF.out]; rfl⟩, hbel.trans hb3⟩
    · have hk2 : 2 ≤ t.size := by
        have := (List.getElem?_eq_some_iff.1 (pair_yes hp).2).1
        rw [bts_length] at this
        omega
      have HS : Hid (strip (bts (t.extract 2 t.size)) = strip (bts s)) := by
        have := strip_drop (L := bts t) (i := 0) (pair_yes hp).1 (pair_yes hp).2
        simp only [List.drop_zero] at this
        rw [bts_extract, ← bts_length, seg_full, ← HST.out]
        exact this.symm
      clear HST HH2
      go_wp2_with fail
      refine HH.out.mono ?_
      rintro e w' ⟨rfl, hw⟩
      obtain rfl := hw.symm
      clear hw HH
      go_wp2
      have hz := ext_size (s := t) (a := 2) (Nat.le_refl t.size)
      go_round
      case rel => exact ⟨_, rfl, by omega, HS.out⟩
      case measure => simp only [strLen]; omega
end Go.Proofs.Qxb6601275a
