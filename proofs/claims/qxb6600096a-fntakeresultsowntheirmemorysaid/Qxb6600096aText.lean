/-
  (Restriction).appendText onto nil: the canonical text.
-/
import Derived.Test.Qxb6600096aOwn
import Derived.Test.Qxb6600096aAlts
namespace Go.Proofs.Qxb6600096a
open Go.RowKit

theorem AltsAt.below {w w' : World} {a : Option Addr} {l : List Alt} (h : AltsAt w a l) (hb : Below w.heap.size w w') : AltsAt w' a l := by
  intro k x hx
  obtain ⟨b, off, e, h0, h1, h2, hf, hv⟩ := h k x hx
  have hlt : b < w.heap.size := World.block_lt_of_cell? _ _ h0
  exact ⟨b, off, e, (hb.cell (by exact hlt)).trans h0, (hb.cell (by exact hlt)).trans h1, (hb.cell (by exact hlt)).trans h2, hf, hv⟩

/-- The copy of an alternative in a block of its own. -/
def Boxed (w : World) (p : Nat) (x : Alt) : Prop := w.heap[p]? = some (Obj.cells #[.string x.f, .int .u8 x.c, .string x.v] 29 (0, 0))
theorem Boxed.new (w : World) (x : Alt) : Boxed (w.alloc (.cells #[.string x.f, .int .u8 x.c, .string x.v] 29)) w.heap.size x := heap_alloc_new w _
theorem Boxed.kept {B p : Nat} {x : Alt} {w w' : World} (h : Boxed w p x) (hk : Kept B w w') : Boxed w' p x := hk.2 p _ 29 _ h (by decide)
theorem Boxed.cells {p : Nat} {x : Alt} {w : World} (h : Boxed w p x) : w.cell? ⟨p, 0, none⟩ = some (.string x.f) ∧ w.cell? ⟨p, 1, none⟩ = some (.int .u8 x.c) ∧ w.cell? ⟨p, 2, none⟩ = some (.string x.v) := by
  unfold Boxed at h
  refine ⟨?_, ?_, ?_⟩ <;> simp [World.cell?, h]

/-- What has been written ahead of alternative k's own text. -/
def sep (l : List Alt) (k : Nat) : List Int := if 0 < k then txt (l.take k) ++ [124] else []
theorem sep_alt {l : List Alt} {k : Nat} {x : Alt} (hx : l[k]? = some x) : sep l k ++ bts x.f ++ [x.c] ++ esc (bts x.v) = txt (l.take (k + 1)) := by
  have e : l.take (k + 1) = l.take k ++ [x] := by rw [List.take_add_one, hx]; rfl
  rw [e]
  unfold sep
  split
  · rw [txt_snoc _ _ (by
      intro h
      have := congrArg List.length h
      have hk := (List.getElem?_eq_some_iff.1 hx).1
      rw [List.length_take] at this
      simp only [List.length_nil] at this
      omega)]
    simp [altT]
  · have : k = 0 := by omega
    subst this
    simp [txt_one, altT]
theorem sep_len {l : List Alt} {k : Nat} {x : Alt} (hx : l[k]? = some x) : (sep l k).length + x.f.size + 1 + (esc (bts x.v)).length ≤ (pre l).length := by
  have h := congrArg List.length (sep_alt hx)
  have h2 := txt_len (l.take (k + 1))
  have h3 := pre_take_len l (k + 1)
  simp only [List.length_append, bts_length, List.length_cons, List.length_nil] at h
  omega
theorem esc_take_len (v : List Int) (j : Nat) : (esc (v.take j)).length ≤ (esc v).length := by
  have e : esc v = esc (v.take j) ++ esc (v.drop j) := by rw [← esc_append, List.take_append_drop]
  rw [e, List.length_append]; omega
theorem esc_step {v : ByteArray} {j : Nat} (h : j < v.size) : esc ((bts v).take (j + 1)) = esc ((bts v).take j) ++ esc1 ((v[j]'h).toNat : Int) := by
  rw [bts_take_succ v j h, esc_snoc]

set_option maxHeartbeats 1000000 in
theorem appendText_any (a : Option Addr) (cap : Nat) (l : List Alt) (w : World) (hl : l.length ≤ 65536) (hA : AltsAt w a l) (hlen : (pre l).length ≤ 1073741824) :
    Calls Try.prog 34 #[.agg #[.slice a l.length cap], .slice none 0 0] w fun e w' => (∃ v, e = .returned v ∧ Own w.heap.size w' v (txt l)) ∧ Below w.heap.size w w' := by
  go_enter Try.func34, Try.ntmps34
  go_wp2
  go_loopw [1, 11] (fun v i wr => ∃ k : Nat, k ≤ l.length ∧ i = .int .i64 k ∧ Own w.heap.size wr v (txt (l.take k)) ∧ Below w.heap.size w wr) (fun _ i _ => l.length - (intOf i).toNat)
  case atStart => exact ⟨0, Nat.zero_le _, rfl, (Own.nil _ _), (Below.refl _ _).alloc (Nat.le_refl _) _⟩
  case round =>
    obtain ⟨k, hk, rfl, hown, hbel⟩ := hrel
    by_cases hlt : k < l.length
    · obtain ⟨x, hx⟩ : ∃ x, l[k]? = some x := ⟨_, List.getElem?_eq_getElem hlt⟩
      obtain ⟨b, off, rfl, c0, c1, c2, hfz, hvz⟩ := hA k x hx
      have hlb : b < w.heap.size := World.block_lt_of_cell? _ _ c0
      replace c0 := (hbel.cell (by exact hlb)).trans c0
      replace c1 := (hbel.cell (by exact hlb)).trans c1
      replace c2 := (hbel.cell (by exact hlb)).trans c2
      have hsl := sep_len hx
      have HA := hide (sep_alt hx)
      unfold maxLen at hfz hvz
      have hbs := hbel.size
      clear hx
      by_cases h0 : 0 < k
      · have hT : (txt (l.take k)).length + 1 ≤ (sep l k).length := by simp [sep, h0]
        go_wp2_with (at_builtin; refine wpList_app1 rfl (.tmp 18) (.tmp 19) rfl w.heap.size _ 124 _ _ rfl _ rfl (by simp) (hown.alloc _) (by simp; omega) (by omega) ?_)
        intro v1 w1 ho1 hk1
        have hbx1 := (Boxed.new wr x).kept hk1
        have hbel1 := (hbel.alloc hbs _).trans hk1.1
        have hB1 := hbel1.size
        obtain ⟨d0, d1, d2⟩ := hbx1.cells
        have e : txt (l.take k) ++ [124] = sep l k := by simp [sep, h0]
        rw [e] at ho1
        clear e hT hown hk1 c0 c1 c2
        go_wp2_with (at_builtin; refine wpList_appS rfl (.tmp 21) (.tmp 23) rfl w.heap.size _ x.f _ _ rfl rfl ho1 hB1 (by omega) ?_)
        intro v2 w2 ho2 hk2
        have hbx2 := hbx1.kept hk2
        have hbel2 := hbel1.trans hk2.1
        obtain ⟨d0, d1, d2⟩ := hbx2.cells
        have hs2 := hbel2.size
        clear ho1 hbx1 hk2 hbel1
        go_wp2_with (at_builtin; refine wpList_app1 rfl (.tmp 25) (.tmp 28) rfl w.heap.size _ x.c _ _ rfl _ rfl (by simp) ho2 hs2 (by simp [bts_length]; omega) ?_)
        intro v3 w3 ho3 hk3
        have hbx3 := hbx2.kept hk3
        have hbel3 := hbel2.trans hk3.1
        clear ho2 hbx2 hk3 hbel2 d0 d1 d2 hs2
        go_wp2
        go_loopw [1, 7] (fun v j wq => ∃ m : Nat, m ≤ x.v.size ∧ j = .int .i64 m ∧ Own w.heap.size wq v (sep l k ++ bts x.f ++ [x.c] ++ esc ((bts x.v).take m)) ∧ Boxed wq wr.heap.size x ∧ Below w.heap.size w wq) (fun _ j _ => x.v.size - (intOf j).toNat)
        case atStart => exact ⟨0, Nat.zero_le _, rfl, by simpa [esc_nil] using ho3, hbx3, hbel3⟩
        case round =>
          clear ho3 hbx3 hbel3
          obtain ⟨m, hm, rfl, ho, hbx, hb⟩ := hrel
          obtain ⟨d0, d1, d2⟩ := hbx.cells
          have hsz := hb.size
          by_cases hmlt : m < x.v.size
          · have hst := esc_step hmlt
            have hle := esc_take_len (bts x.v) (m + 1)
            rw [hst, List.length_append] at hle
            have HST := hide hst
            clear hst
            cases hesc : escB ((x.v[m]'hmlt).toNat : Int) with
            | true =>
              have hi := idxE_yes hesc
              rw [esc1_yes hesc] at hle
              simp only [List.length_cons, List.length_nil] at hle
              have HE := hide (esc1_yes hesc)
              clear hesc
              go_wp2_with (first | (go_at_call 40; refine (idx_any _ _).mono ?_; rintro e w' ⟨rfl, rfl⟩) | (at_builtin; refine wpList_app1 rfl (.tmp 43) (.tmp 44) rfl w.heap.size _ 92 _ _ rfl _ rfl (by simp) ho hsz (by simp [bts_length]; omega) ?_))
              intro v4 w4 ho4 hk4
              have hbx4 := hbx.kept hk4
              have hbel4 := hb.trans hk4.1
              have hs4 := hbel4.size
              obtain ⟨g0, g1, g2⟩ := hbx4.cells
              clear ho hbx hk4 hb d0 d1 d2 hsz
              go_wp2_with (at_builtin; refine wpList_app1 rfl (.tmp 46) (.tmp 51) rfl w.heap.size _ ((x.v[m]'hmlt).toNat : Int) _ _ rfl _ rfl (by simp) ho4 hs4 (by simp [bts_length]; omega) ?_)
              intro v5 w5 ho5 hk5
              have hbx5 := hbx4.kept hk5
              have hbel5 := hbel4.trans hk5.1
              clear ho4 hbx4 hbel4 hk5 g0 g1 g2 hs4
              go_wp2
              go_roundw
              case rel => exact ⟨m + 1, by omega, by go_num, by rw [HST.out, HE.out]; simpa [List.append_assoc] using ho5, hbx5, hbel5⟩
              case measure => simp [intOf]; omega
            | false =>
              have hi := idxE_no hesc
              rw [esc1_no hesc] at hle
              simp only [List.length_cons, List.length_nil] at hle
              have HE := hide (esc1_no hesc)
              clear hesc
              go_wp2_with (first | (go_at_call 40; refine (idx_any _ _).mono ?_; rintro e w' ⟨rfl, rfl⟩) | (at_builtin; refine wpList_app1 rfl (.tmp 46) (.tmp 51) rfl w.heap.size _ ((x.v[m]'hmlt).toNat : Int) _ _ rfl _ rfl (by simp) ho hsz (by simp [bts_length]; omega) ?_))
              intro v5 w5 ho5 hk5
              have hbx5 := hbx.kept hk5
              have hbel5 := hb.trans hk5.1
              clear ho hbx hb hk5 d0 d1 d2 hsz
              go_wp2
              go_roundw
              case rel => exact ⟨m + 1, by omega, by go_num, by rw [HST.out, HE.out]; simpa [List.append_assoc] using ho5, hbx5, hbel5⟩
              case measure => simp [intOf]; omega
          · have e : (bts x.v).take m = bts x.v := List.take_of_length_le (by rw [bts_length]; omega)
            rw [e, HA.out] at ho
            clear e
            go_wp2
            go_roundw
            case rel => exact ⟨k + 1, by omega, by go_num, ho, hb⟩
            case measure => simp [intOf]; omega
      · have e : txt (l.take k) = sep l k := by
          have : k = 0 := by omega
          subst this
          simp [sep, txt_nil]
        rw [e] at hown
        have hbx1 := Boxed.new wr x
        have ho1 := hown.alloc (.cells #[.string x.f, .int .u8 x.c, .string x.v] 29)
        have hbel1 := hbel.alloc hbs (.cells #[.string x.f, .int .u8 x.c, .string x.v] 29)
        have hB1 := hbel1.size
        clear e hown
        go_wp2_with (at_builtin; refine wpList_appS rfl (.tmp 21) (.tmp 23) rfl w.heap.size _ x.f _ _ rfl rfl ho1 hB1 (by omega) ?_)
        intro v2 w2 ho2 hk2
        have hbx2 := hbx1.kept hk2
        have hbel2 := hbel1.trans hk2.1
        obtain ⟨d0, d1, d2⟩ := hbx2.cells
        have hs2 := hbel2.size
        clear ho1 hbx1 hk2 hbel1
        go_wp2_with (at_builtin; refine wpList_app1 rfl (.tmp 25) (.tmp 28) rfl w.heap.size _ x.c _ _ rfl _ rfl (by simp) ho2 hs2 (by simp [bts_length]; omega) ?_)
        intro v3 w3 ho3 hk3
        have hbx3 := hbx2.kept hk3
        have hbel3 := hbel2.trans hk3.1
        clear ho2 hbx2 hk3 hbel2 d0 d1 d2 hs2
        go_wp2
        go_loopw [1, 7] (fun v j wq => ∃ m : Nat, m ≤ x.v.size ∧ j = .int .i64 m ∧ Own w.heap.size wq v (sep l k ++ bts x.f ++ [x.c] ++ esc ((bts x.v).take m)) ∧ Boxed wq wr.heap.size x ∧ Below w.heap.size w wq) (fun _ j _ => x.v.size - (intOf j).toNat)
        case atStart => exact ⟨0, Nat.zero_le _, rfl, by simpa [esc_nil] using ho3, hbx3, hbel3⟩
        case round =>
          clear ho3 hbx3 hbel3
          obtain ⟨m, hm, rfl, ho, hbx, hb⟩ := hrel
          obtain ⟨d0, d1, d2⟩ := hbx.cells
          have hsz := hb.size
          by_cases hmlt : m < x.v.size
          · have hst := esc_step hmlt
            have hle := esc_take_len (bts x.v) (m + 1)
            rw [hst, List.length_append] at hle
            have HST := hide hst
            clear hst
            cases hesc : escB ((x.v[m]'hmlt).toNat : Int) with
            | true =>
              have hi := idxE_yes hesc
              rw [esc1_yes hesc] at hle
              simp only [List.length_cons, List.length_nil] at hle
              have HE := hide (esc1_yes hesc)
              clear hesc
              go_wp2_with (first | (go_at_call 40; refine (idx_any _ _).mono ?_; rintro e w' ⟨rfl, rfl⟩) | (at_builtin; refine wpList_app1 rfl (.tmp 43) (.tmp 44) rfl w.heap.size _ 92 _ _ rfl _ rfl (by simp) ho hsz (by simp [bts_length]; omega) ?_))
              intro v4 w4 ho4 hk4
              have hbx4 := hbx.kept hk4
              have hbel4 := hb.trans hk4.1
              have hs4 := hbel4.size
              obtain ⟨g0, g1, g2⟩ := hbx4.cells
              clear ho hbx hk4 hb d0 d1 d2 hsz
              go_wp2_with (at_builtin; refine wpList_app1 rfl (.tmp 46) (.tmp 51) rfl w.heap.size _ ((x.v[m]'hmlt).toNat : Int) _ _ rfl _ rfl (by simp) ho4 hs4 (by simp [bts_length]; omega) ?_)
              intro v5 w5 ho5 hk5
              have hbx5 := hbx4.kept hk5
              have hbel5 := hbel4.trans hk5.1
              clear ho4 hbx4 hbel4 hk5 g0 g1 g2 hs4
              go_wp2
              go_roundw
              case rel => exact ⟨m + 1, by omega, by go_num, by rw [HST.out, HE.out]; simpa [List.append_assoc] using ho5, hbx5, hbel5⟩
              case measure => simp [intOf]; omega
            | false =>
              have hi := idxE_no hesc
              rw [esc1_no hesc] at hle
              simp only [List.length_cons, List.length_nil] at hle
              have HE := hide (esc1_no hesc)
              clear hesc
              go_wp2_with (first | (go_at_call 40; refine (idx_any _ _).mono ?_; rintro e w' ⟨rfl, rfl⟩) | (at_builtin; refine wpList_app1 rfl (.tmp 46) (.tmp 51) rfl w.heap.size _ ((x.v[m]'hmlt).toNat : Int) _ _ rfl _ rfl (by simp) ho hsz (by simp [bts_length]; omega) ?_))
              intro v5 w5 ho5 hk5
              have hbx5 := hbx.kept hk5
              have hbel5 := hb.trans hk5.1
              clear ho hbx hb hk5 d0 d1 d2 hsz
              go_wp2
              go_roundw
              case rel => exact ⟨m + 1, by omega, by go_num, by rw [HST.out, HE.out]; simpa [List.append_assoc] using ho5, hbx5, hbel5⟩
              case measure => simp [intOf]; omega
          · have e : (bts x.v).take m = bts x.v := List.take_of_length_le (by rw [bts_length]; omega)
            rw [e, HA.out] at ho
            clear e
            go_wp2
            go_roundw
            case rel => exact ⟨k + 1, by omega, by go_num, ho, hb⟩
            case measure => simp [intOf]; omega
    · have e : l.take k = l := List.take_of_length_le (by omega)
      rw [e] at hown
      clear e
      go_wp2
      go_ret
      exact ⟨⟨_, rfl, hown⟩, hbel⟩
end Go.Proofs.Qxb6600096a
