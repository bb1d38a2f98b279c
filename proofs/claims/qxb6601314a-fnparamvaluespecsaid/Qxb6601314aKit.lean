/-
  Appending bytes to a slice that the call itself makes; its turn into a string.
-/
import Derived.Test.Qxb6601314aProg
import Derived.Test.Qxb6601314aPlain
import Derived.WalkKit
import Derived.WalkSpells
import Derived.WalkLawsBesides
import Derived.Lib.AppendStr
import Derived.Laws.BytesArg
import Derived.Deep.DeepCutAuto
namespace Go.Proofs.Qxb6601314a
open Go.RowKit

theorem hide {p : Prop} (h : p) : Hid p := h
theorem ret_bool {a b : Bool} (h : a = b) : Ending.returned (.bool a) = .returned (.bool b) := by rw [h]
theorem val_bool {a b : Bool} (h : a = b) : Value.bool a = .bool b := by rw [h]
theorem Try.info5 : (Try.prog.info? 5).map (fun i => (i.zero, i.size, i.bytes)) = some (some (.int .u8 0), 1, 1) := by kernel_rfl

/-- The slice value v owns the bytes xs, in a block from B on. -/
def Own (B : Nat) (w : World) (v : Value) (xs : List Int) : Prop := w.ownsRow B 5 1 v xs.length (xs.map (Value.int .u8))
theorem Own.alloc {B : Nat} {w : World} {v : Value} {xs : List Int} (h : Own B w v xs) (o : Obj) : Own B (w.alloc o) v xs := World.ownsRow.alloc h o
theorem Own.shape {B : Nat} {w : World} {v : Value} {xs : List Int} (h : Own B w v xs) : ∃ ao cap, v = .slice ao xs.length cap := by
  rcases h.2 with ⟨hv, hn⟩ | ⟨g, cap, cur, hv, hg, hh, hnc, hcm, hcs, htake⟩
  · exact ⟨none, 0, by rw [hn]; exact hv⟩
  · exact ⟨_, cap, hv⟩

section
variable {ops : Array Oper} {rest : List Oper} {o : Oper} {a : Act} {Q : Exit → Act → World → Prop}

/-- 'append(dst, c)': one byte. -/
theorem wpList_app1 (hgd : o.guard = none) (s x : Operand) (ho : o.op = .call { callee := .builtin .append, args := #[s, x], argTypes := #[27, 27] })
    (B : Nat) (W : World) (c : Int) (v : Value) (xs : List Int) (hs : a.eval s = v) (H : Nat) (hx : a.eval x = .slice (some ⟨H, 0, none⟩) 1 1) (hH : W.heap.size = H) (hown : Own B W v xs) (hB : B ≤ W.heap.size) (hlen : xs.length + 1 ≤ 1099511627776)
    (h : ∀ v' w', Own B w' v' (xs ++ [c]) → Below B W w' → wpList Try.prog ops Q rest (a.put o.dst v') w') : wpList Try.prog ops Q (o :: rest) a (W.alloc (.cells #[.int .u8 c] 5)) := by
  obtain ⟨i, hi, hz0, hz1, hz2⟩ := info_parts Try.info5
  subst hH
  refine wpList_append_own _ hgd s x 27 ho B 5 i (.int .u8 0) 1 1 Try.underlying27 hi hz0 hz1 hz2 rfl (by decide) v _ _ hs (hown.alloc _) ⟨W.heap.size, 0, none⟩ 1 1 [.int .u8 c] hx rfl (cell_one_new _ _ _) (by intro u hu; simp at hu; subst hu; rfl)
    (by unfold maxLen; omega) (by omega) (by simp; omega) fun v' w' h1 h2 _ => ?_
  have hsz : B ≤ (W.alloc (.cells #[.int .u8 c] 5)).heap.size := by simp; omega
  exact h v' w' (by unfold Own; simpa using h1) (((Below.refl B W).alloc hB _).grown h2 hsz fun k hk => (World.ownsRow.lt hown k hk).1)

/-- 'append(dst, s...)': a string's bytes. -/
theorem wpList_appS (hgd : o.guard = none) (s x : Operand) (ho : o.op = .call { callee := .builtin .append, args := #[s, x], argTypes := #[27, 9] })
    (B : Nat) (W : World) (t : ByteArray) (v : Value) (xs : List Int) (hs : a.eval s = v) (hx : a.eval x = .string t) (hown : Own B W v xs) (hB : B ≤ W.heap.size) (hlen : xs.length + t.size ≤ 1099511627776)
    (h : ∀ v' w', Own B w' v' (xs ++ bts t) → Below B W w' → wpList Try.prog ops Q rest (a.put o.dst v') w') : wpList Try.prog ops Q (o :: rest) a W := by
  obtain ⟨i, hi, hz0, hz1, hz2⟩ := info_parts Try.info5
  refine Lib.wpList_append_own_string W hgd s x 27 9 ho B 5 i Try.underlying27 Try.underlying9 hi hz0 hz1 hz2 v _ _ hs hown t hx (by unfold maxLen; omega) (by omega) hB fun v' w' h1 h2 _ => ?_
  have e : Lib.strCells t = (bts t).map (Value.int .u8) := by simp [Lib.strCells, bts]
  rw [e] at h1
  exact h v' w' (by unfold Own; simpa [bts_length] using h1) ((Below.refl B W).grown h2 hB fun k hk => (World.ownsRow.lt hown k hk).1)
end

theorem strOfNums_bts {T : List Int} (h : BytesL T) : bts (strOfNums T) = T := by
  have e : bts (strOfNums T) = T.map fun n => ((UInt8.ofNat n.toNat).toNat : Int) := by
    simp [bts, strOfNums]
  rw [e]
  conv => rhs; rw [← List.map_id T]
  apply List.map_congr_left
  intro z hz
  obtain ⟨h0, h1⟩ := h z hz
  have : z.toNat < 256 := by omega
  simp only [id]
  have e2 : (UInt8.ofNat z.toNat).toNat = z.toNat := by
    rw [UInt8.toNat_ofNat']
    omega
  rw [e2]
  omega

/-- 'string(out)', out a row of bytes of the call's own. -/
theorem Own.conv {B : Nat} {w : World} {v : Value} {T : List Int} (h : Own B w v T) (hb : BytesL T) :
    ∃ ao cap tx, v = .slice ao T.length cap ∧ (convert 27 9 (.slice ao T.length cap)).run Try.prog w = .ok (.string tx) w ∧ bts tx = T := by
  rcases h.2 with ⟨hv, hn⟩ | ⟨g, cap, cur, hv, hg, hh, hnc, hcm, hcs, htake⟩
  · have hT : T = [] := List.eq_nil_of_length_eq_zero hn
    subst hT
    exact ⟨none, 0, ByteArray.empty, hv, run_convert_bytes_nil w 27 5 Try.underlying27 Try.underlying5 0 0 9 Try.underlying9, rfl⟩
  · refine ⟨some ⟨g, 0, none⟩, cap, strOfNums T, hv, run_convert_bytes_arg w 27 5 Try.underlying27 Try.underlying5 g 0 T.length cap T rfl ?_ 9 Try.underlying9, strOfNums_bts hb⟩
    intro i hi
    have hc := h.cells (g := g) (by rw [hv]; rfl) i (.int .u8 T[i]) (by simp [hi])
    rw [Addr.add_lit] at hc
    rw [hc, List.getD_eq_getElem?_getD, List.getElem?_eq_getElem hi]
    rfl

set_option maxHeartbeats 1000000 in
/-- azkvB1AppendQuoted onto a row of the caller's own. -/
theorem quote_any (v : Value) (xs : List Int) (s : ByteArray) (all : Bool) (B : Nat) (w : World) (hs : s.size ≤ 524288) (hx : xs.length ≤ 1048576) (hown : Own B w v xs) (hB : B ≤ w.heap.size) :
    Calls Try.prog 10 #[v, .string s, .bool all] w fun e w' => (∃ v', e = .returned v' ∧ Own B w' v' (xs ++ 34 :: esc all (bts s) ++ [34])) ∧ Below B w w' := by
  go_enter Try.func10, Try.ntmps10
  go_wp2_with (at_builtin; refine wpList_app1 rfl (.tmp 9) (.tmp 10) rfl B _ 34 _ _ rfl _ rfl rfl hown hB (by omega) ?_)
  intro v1 w1 ho1 hb1
  clear hown
  go_wp2
  go_loopw [0, 7] (fun v i wr => ∃ k : Nat, k ≤ s.size ∧ i = .int .i64 k ∧ Own B wr v (xs ++ 34 :: esc all ((bts s).take k)) ∧ Below B w wr) (fun _ i _ => s.size - (intOf i).toNat)
  case atStart => exact ⟨0, Nat.zero_le _, rfl, by simpa [esc] using ho1, hb1⟩
  case round =>
    clear ho1 hb1
    obtain ⟨k, hk, rfl, ho, hb⟩ := hrel
    have hsz : B ≤ wr.heap.size := Nat.le_trans hB hb.size
    have hel := esc_len all ((bts s).take k)
    rw [List.length_take, bts_length] at hel
    have hlen : (xs ++ 34 :: esc all ((bts s).take k)).length = xs.length + 1 + (esc all ((bts s).take k)).length := by simp; omega
    by_cases hlt : k < s.size
    · have HST := hide (esc_step (all := all) (bts_get s k hlt))
      go_upto_region 6 with fail
      go_cut [29] (fun c wx => c = .bool (escB all ((s[k]'hlt).toNat : Int)) ∧ wx = wr)
      case first =>
        cases all
        · cases h92 : (((s[k]'hlt).toNat : Int) == 92)
          · go_wp2
            go_meet
            case rel => exact ⟨val_bool (by rw [escB, h92]; rfl), rfl⟩
          · go_wp2
            go_meet
            case rel => exact ⟨val_bool (by rw [escB, h92]; rfl), rfl⟩
        · go_wp2
          go_meet
          case rel => exact ⟨val_bool rfl, rfl⟩
      case rest =>
        obtain ⟨rfl, hw⟩ := hcut
        obtain rfl := hw.symm
        clear hw
        cases he : escB all ((s[k]'hlt).toNat : Int)
        · have HE := hide (esc1_no he)
          go_wp2_with (at_builtin; refine wpList_app1 rfl (.tmp 33) (.tmp 35) rfl B _ ((s[k]'hlt).toNat : Int) _ _ rfl _ rfl rfl ho hsz (by omega) ?_)
          intro v2 w2 ho2 hb2
          clear ho
          go_wp2
          go_roundw
          case rel => exact ⟨k + 1, by omega, by go_num, by rw [HST.out, HE.out]; simpa using ho2, hb.trans hb2⟩
          case measure => simp [intOf]; omega
        · have HE := hide (esc1_yes he)
          go_wp2_with (at_builtin; refine wpList_app1 rfl (.tmp 30) (.tmp 31) rfl B _ 92 _ _ rfl _ rfl rfl ho hsz (by omega) ?_)
          intro v2 w2 ho2 hb2
          have hs2 : B ≤ w2.heap.size := Nat.le_trans hB (hb.trans hb2).size
          clear ho
          go_wp2_with (at_builtin; refine wpList_app1 rfl (.tmp 33) (.tmp 35) rfl B _ ((s[k]'hlt).toNat : Int) _ _ rfl _ rfl rfl ho2 hs2 (by simp only [List.length_append, List.length_cons, List.length_nil]; omega) ?_)
          intro v3 w3 ho3 hb3
          clear ho2
          go_wp2
          go_roundw
          case rel => exact ⟨k + 1, by omega, by go_num, by rw [HST.out, HE.out]; simpa using ho3, (hb.trans hb2).trans hb3⟩
          case measure => simp [intOf]; omega
    · have e : (bts s).take k = bts s := List.take_of_length_le (by rw [bts_length]; omega)
      rw [e] at ho hlen hel
      clear e
      go_wp2_with (at_builtin; refine wpList_app1 rfl (.tmp 37) (.tmp 38) rfl B _ 34 _ _ rfl _ rfl rfl ho hsz (by omega) ?_)
      intro v2 w2 ho2 hb2
      go_wp2
      go_ret
      exact ⟨⟨_, rfl, by simpa using ho2⟩, hb.trans hb2⟩
end Go.Proofs.Qxb6601314a
