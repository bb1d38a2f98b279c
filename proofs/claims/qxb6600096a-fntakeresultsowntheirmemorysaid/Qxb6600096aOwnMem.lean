/-
  FnTakeResultsOwnTheirMemory: the walk.
-/
import Derived.Test.Qxb6600096aInv
import Derived.Deep.RegionLawGrows
namespace Go.Proofs.Qxb6600096a
open Go.RowKit
attribute [local go_sem ↓] Go.wp_at_zero Go.wp_at_succ

/-- What lies behind a slice of alternatives, cell by cell. -/
theorem AltRow.olds {w : World} {A lo s : Nat} {l : List Alt} (h : AltRow w A l l.length) (hls : lo ≤ s) (hs : s ≤ l.length) :
    ∃ olds : List Value, olds.length = (s - lo) * 3 ∧ ∀ j u, olds[j]? = some u → w.cell? ⟨A, lo * 3 + j, none⟩ = some u := by
  obtain ⟨F, hr, _⟩ := h
  refine ⟨(List.range ((s - lo) * 3)).map fun j => F (lo * 3 + j), by simp, fun j u hj => ?_⟩
  have hjl : j < (s - lo) * 3 := by
    have := (List.getElem?_eq_some_iff.1 hj).1
    simpa using this
  rw [List.getElem?_map, List.getElem?_range hjl] at hj
  rw [hr.cell (by omega)]
  simpa using hj

section
variable {ops : Array Oper} {o : Oper} {a : Act} {K : Act → World → Prop} {Q : Exit → Act → World → Prop} {X : Prop}
/-- 'append(rs[g].Alternatives, marker)': the part is full: a new row; nothing that was there turns. -/
theorem step_grow (hg : o.guard = none) (s x : Operand) (hop : o.op = Op.call { callee := Callee.builtin Builtin.append, args := #[s, x], argTypes := #[30, 30] })
    (W : World) (A lo n : Nat) (olds : List Value) (mf : ByteArray) (mc : Int) (mv : ByteArray) (hs : a.eval s = .slice (some ⟨A, lo, none⟩) n n) (hlo : olds.length = n * 3) (holds : ∀ j u, olds[j]? = some u → W.cell? ⟨A, lo + j, none⟩ = some u)
    (H : Nat) (hx : a.eval x = .slice (some ⟨H, 0, none⟩) 1 1) (hc0 : W.cell? ⟨H, 0, none⟩ = some (.string mf)) (hc1 : W.cell? ⟨H, 1, none⟩ = some (.int .u8 mc)) (hc2 : W.cell? ⟨H, 2, none⟩ = some (.string mv)) (hn : n ≤ 65536)
    (hK : ∀ v' w', (∃ ao cap, v' = .slice ao (n + 1) cap) → Below W.heap.size W w' → K (a.put o.dst v') w') :
    if Region.wanted o (yielded ops a.tmps) = true then Oper.wp Try.prog o a W K Q else X := by
  obtain ⟨i, hi, hz0, hz1, hz2⟩ := info_parts Try.info29
  refine step_append_grows hg s x 30 hop 29 i _ 3 40 Try.underlying30 hi hz0 hz1 hz2 rfl (by decide) (some ⟨A, lo, none⟩) n n olds hs (fun h => by cases h) hlo ?_ ⟨H, 0, none⟩ 1 1 [.string mf, .int .u8 mc, .string mv] hx rfl ?_ ?_ (by omega) (by unfold maxLen; omega) (by omega) fun v' w' h1 h2 => ?_
  · intro b hb j u hj
    obtain rfl := Option.some.inj hb
    rw [Addr.add_lit]; exact holds j u hj
  · intro j u hj
    rw [Addr.add_lit, Nat.zero_add]
    match j, hj with
    | 0, hj => simp at hj; subst hj; exact hc0
    | 1, hj => simp at hj; subst hj; exact hc1
    | 2, hj => simp at hj; subst hj; exact hc2
  · intro u hu
    simp at hu
    rcases hu with rfl | rfl | rfl <;> rfl
  · refine hK v' w' ?_ ((Below.refl _ _).grown h2 (Nat.le_refl _) fun k hk => by cases hk)
    rcases h1.2 with ⟨_, h0⟩ | ⟨g, cap, cur, hv, _⟩
    · omega
    · exact ⟨_, cap, hv⟩
end

/-- The marker in a block of its own. -/
def MkAt (w : World) (M : Nat) (s1 s2 : ByteArray) : Prop := w.heap[M]? = some (Obj.cells #[.string s1, .int .u8 0, .string s2] 29 (0, 0))
theorem MkAt.cells {w : World} {M : Nat} {s1 s2 : ByteArray} (h : MkAt w M s1 s2) : w.cell? ⟨M, 0, none⟩ = some (.string s1) ∧ w.cell? ⟨M, 1, none⟩ = some (.int .u8 0) ∧ w.cell? ⟨M, 2, none⟩ = some (.string s2) := by
  unfold MkAt at h
  exact ⟨(cell_of_row _ _ 0 _ 29 (0, 0) h).trans rfl, (cell_of_row _ _ 1 _ 29 (0, 0) h).trans rfl, (cell_of_row _ _ 2 _ 29 (0, 0) h).trans rfl⟩
theorem MkAt.below {w w' : World} {M : Nat} {s1 s2 : ByteArray} (h : MkAt w M s1 s2) (hb : Below w.heap.size w w') : MkAt w' M s1 s2 := by
  unfold MkAt at *
  rw [hb.block M (Array.getElem?_eq_some_iff.1 h).1]; exact h

/-- The first number of a row of one's own: where it lies; that it may be written. -/
theorem OwnI.head {B : Nat} {w : World} {a : Option Addr} {cap e : Nat} {E : List Nat} (h : OwnI B w (.slice a E.length cap) E) (he : E[0]? = some e) :
    ∃ g, a = some ⟨g, 0, none⟩ ∧ B ≤ g ∧ w.cell? ⟨g, 0, none⟩ = some (.int .i64 (e : Int)) ∧ w.frozen? ⟨g, 0, none⟩ = false := by
  have hpos := (List.getElem?_eq_some_iff.1 he).1
  rcases h.2 with ⟨_, h0⟩ | ⟨g, cap', cur, hv, hg, hh, _⟩
  · omega
  · have hv' : a = some ⟨g, 0, none⟩ := by simp at hv; exact hv.1
    refine ⟨g, hv', hg, ?_, by simp [World.frozen?, hh]⟩
    have := h.cells (g := g) (by rw [hv']; rfl) 0 (.int .i64 (e : Int)) (by simp [he])
    rwa [Addr.add_lit] at this

theorem conv3 (w : World) : ∃ s, (convert 33 9 (.slice (some ⟨w.heap.size, 0, none⟩) 3 3)).run Try.prog (w.alloc (.cells #[.int .u8 0, .int .u8 122, .int .u8 122] 5)) = .ok (.string s) (w.alloc (.cells #[.int .u8 0, .int .u8 122, .int .u8 122] 5)) := by
  refine ⟨_, run_convert_bytes_arg _ 33 5 Try.underlying33 Try.underlying5 w.heap.size 0 3 3 [0, 122, 122] rfl ?_ 9 Try.underlying9⟩
  intro i hi
  have h := heap_alloc_new w (.cells #[.int .u8 0, .int .u8 122, .int .u8 122] 5)
  rw [Nat.zero_add, cell_of_row _ _ i _ 5 (0, 0) h]
  match i, hi with
  | 0, _ => rfl
  | 1, _ => rfl
  | 2, _ => rfl
theorem conv1 (w : World) (H : Nat) (hH : w.heap.size = H) : ∃ s, (convert 33 9 (.slice (some ⟨H, 0, none⟩) 1 1)).run Try.prog (w.alloc (.cells #[.int .u8 0] 5)) = .ok (.string s) (w.alloc (.cells #[.int .u8 0] 5)) := by
  subst hH
  refine ⟨_, run_convert_bytes_arg _ 33 5 Try.underlying33 Try.underlying5 w.heap.size 0 1 1 [0] rfl ?_ 9 Try.underlying9⟩
  intro i hi
  have h := heap_alloc_new w (.cells #[.int .u8 0] 5)
  rw [Nat.zero_add, cell_of_row _ _ i _ 5 (0, 0) h]
  match i, hi with
  | 0, _ => rfl

set_option maxRecDepth 100000 in
set_option maxHeartbeats 1000000 in
theorem ownmem_any (a0 a1 a2 a3 : Option Addr) (fs vs : List ByteArray) (zs : List Int) (bk : List Bool) (cap0 cap1 cap2 cap3 : Nat) (w : World) (m0 : fs.length ≤ maxLen) (m2 : vs.length ≤ maxLen)
    (hS : Strs w a0 fs) (hN : Nums .u8 w a1 zs) (hV : Strs w a2 vs) (hB : Bools w a3 bk) (hzb : ∀ z ∈ zs, 0 ≤ z ∧ z ≤ 255) :
    Calls Try.prog 10 #[.slice a0 fs.length cap0, .slice a1 zs.length cap1, .slice a2 vs.length cap2, .slice a3 bk.length cap3] w fun e w' => e = .returned (.bool true) ∧ Below w.heap.size w w' := by
  have HZB := hide (zzBytes10_any a0 a1 a2 a3 fs vs zs.length bk.length cap0 cap1 cap2 cap3 w m0 m2 hS hV)
  by_cases h0 : fs.length ≤ 65536
  · by_cases h1 : zs.length ≤ 65536
    · by_cases h2 : vs.length ≤ 65536
      · by_cases h3 : bk.length ≤ 65536
        · have HB0 := hide (stringsBytes_any a0 fs cap0 w h0 hS)
          have HB2 := hide (stringsBytes_any a2 vs cap2 w h2 hV)
          obtain ⟨q0, q1, q2⟩ := min3_le fs.length zs.length vs.length
          obtain ⟨l, hll, hZ, hpre⟩ : ∃ l : List Alt, l.length = min3 fs.length zs.length vs.length ∧ Zips l fs zs vs ∧ (pre l).length ≤ 2 * l.length + sizes fs + 2 * sizes vs :=
            ⟨_, mkAlts_length _ _ _ _, mkAlts_zips q0 q1 q2, by
              have := pre_mkAlts_len (zs := zs) (min3 fs.length zs.length vs.length) q0 q2
              have t0 := sizes_take_le fs (min3 fs.length zs.length vs.length)
              have t2 := sizes_take_le vs (min3 fs.length zs.length vs.length)
              rw [mkAlts_length]
              omega⟩
          have HLL := hide hll
          rw [← hll] at q0 q1 q2
          have HLS : Hid (∀ x ∈ l, x.f.size ≤ maxLen ∧ x.v.size ≤ maxLen) := by
            intro x hx
            obtain ⟨k, hk⟩ := List.getElem?_of_mem hx
            obtain ⟨hf, _, hv⟩ := hZ k x hk
            obtain ⟨_, _, _, _, z0⟩ := hS k _ hf
            obtain ⟨_, _, _, _, z2⟩ := hV k _ hv
            exact ⟨z0, z2⟩
          have HCB : Hid (∀ x ∈ l, 0 ≤ x.c ∧ x.c ≤ 255) := by
            intro x hx
            obtain ⟨k, hk⟩ := List.getElem?_of_mem hx
            exact hzb _ (List.mem_of_getElem? (hZ k x hk).2.1)
          clear hll
          go_enter Try.func10, Try.ntmps10
          go_wp2_with (go_at_call 32; refine HZB.out.mono ?_; rintro e w' ⟨⟨b, rfl⟩, hw⟩; obtain rfl := hw.symm; clear hw; cases b)
          · go_ret
            exact ⟨rfl, Below.refl _ _⟩
          · refine HB0.out.mono ?_
            rintro e w' ⟨⟨n0, rfl, hn0, hz0⟩, hw⟩
            obtain rfl := hw.symm
            clear hw
            go_wp2_with fail
            refine HB2.out.mono ?_
            rintro e w' ⟨⟨n2, rfl, hn2, hz2⟩, hw⟩
            obtain rfl := hw.symm
            clear hw
            by_cases hsum : n0 + n2 + zs.length + bk.length ≤ 1048576
            · have hpr : (pre l).length ≤ 1000000000 := by have := hz0 (by omega); have := hz2 (by omega); omega
              go_wp2_with fail
              refine (layout_any a0 a1 a2 a3 fs vs zs bk cap0 cap1 cap2 cap3 l _ h0 h3 HLL.out hZ hpr HCB.out hS hN hV hB).mono ?_
              rintro e w1 ⟨vT, vS, vE, T, S, E, P, rfl, ⟨hT, hSo, hEo, hap, hsp, hb1⟩, hL, hby⟩
              obtain ⟨aT, capT, tx, rfl, hcT, hNT, hcv, htx⟩ := hT.conv hby
              obtain ⟨aS, capS, rfl, hNS⟩ := hSo.shape
              obtain ⟨aE, capE, rfl, hNE⟩ := hEo.shape
              have HTX := hide htx
              have htl : tx.size ≤ 1000000000 := by
                have h := congrArg List.length htx
                rw [bts_length] at h
                have := hL.2.2.2.2.1
                omega
              have HES := hide hL.2.2.1.1
              clear htx hap hT hSo hEo hn0 hn2 hz0 hz2 hpre
              go_wp2_with fail
              refine (zzTake_any w.heap.size l P S E T aS aE capS capE tx _ (by omega) hsp HTX.out hNS hNE hL htl).mono ?_
              rintro e w2 ⟨A, G, vG, rfl, hA, hAG, hrs, har, ho, hb2⟩
              have hb := hb1.trans (hb2.mono hb1.size)
              obtain ⟨aG, capG, rfl, hNG⟩ := ho.shape
              clear hcv
              have hSl : S.length ≤ 65536 := by have := hL.2.2.2.2.2; omega
              obtain ⟨s1, hs1⟩ := conv3 w2
              obtain ⟨s2, hs2⟩ := conv1 (w2.alloc (.cells #[.int .u8 0, .int .u8 122, .int .u8 122] 5)) (w2.heap.size + 1) (by simp)
              have hm0 : MkAt (((w2.alloc (.cells #[.int .u8 0, .int .u8 122, .int .u8 122] 5)).alloc (.cells #[.int .u8 0] 5)).alloc (.cells #[.string s1, .int .u8 0, .string s2] 29)) (w2.heap.size + 2) s1 s2 := by
                have h := heap_alloc_new ((w2.alloc (.cells #[.int .u8 0, .int .u8 122, .int .u8 122] 5)).alloc (.cells #[.int .u8 0] 5)) (.cells #[.string s1, .int .u8 0, .string s2] 29)
                rw [show ((w2.alloc (.cells #[.int .u8 0, .int .u8 122, .int .u8 122] 5)).alloc (.cells #[.int .u8 0] 5)).heap.size = w2.heap.size + 2 by simp] at h
                exact h
              have hbm : Below w2.heap.size w2 (((w2.alloc (.cells #[.int .u8 0, .int .u8 122, .int .u8 122] 5)).alloc (.cells #[.int .u8 0] 5)).alloc (.cells #[.string s1, .int .u8 0, .string s2] 29)) :=
                (((Below.refl _ _).alloc (Nat.le_refl _) _).alloc (by simp) _).alloc (by simp; omega) _
              go_wp2
              clear hs1 hs2
              go_loopw [17] (fun iv wr => ∃ g : Nat, g ≤ S.length ∧ iv = .int .i64 g ∧ MkAt wr (w2.heap.size + 2) s1 s2 ∧ Below w2.heap.size w2 wr) (fun iv _ => S.length - (intOf iv).toNat)
              case atStart => exact ⟨0, Nat.zero_le _, rfl, hm0, hbm⟩
              case round =>
                clear hm0 hbm
                obtain ⟨g, hg, rfl, hmk, hbr⟩ := hrel
                by_cases hgl : g < S.length
                · obtain ⟨s, hs⟩ : ∃ s, S[g]? = some s := ⟨_, List.getElem?_eq_getElem hgl⟩
                  obtain ⟨e, he⟩ : ∃ e, E[g]? = some e := ⟨_, List.getElem?_eq_getElem (by rw [← HES.out]; exact hgl)⟩
                  obtain ⟨p1, p2, _⟩ := hL.2.2.1.2 g s e hs he
                  have cR := (hrs.below hbr).cell hs
                  obtain ⟨lo, hlo⟩ : ∃ lo, loOf S g = lo := ⟨_, rfl⟩
                  rw [hlo] at p1 cR
                  obtain ⟨olds, hol, hold⟩ := (har.below hbr).olds (lo := lo) (s := s) (by omega) p2
                  obtain ⟨k0, k1, k2⟩ := hmk.cells
                  have hGw : G < wr.heap.size := World.block_lt_of_cell? _ _ cR
                  have hMw : w2.heap.size + 2 < wr.heap.size := World.block_lt_of_cell? _ _ k0
                  have n0 := World.new_ne _ _ cR
                  have n1 := World.new_ne _ _ k0
                  have n2 := World.new_ne _ _ k1
                  have n3 := World.new_ne _ _ k2
                  have hgi : (g : Int) < S.length := by omega
                  have HOL := hide hol
                  have HOD := hide hold
                  clear hs he hlo hol hold
                  go_wp2
                  go_region_held3 (fun w' => w'.cell? ⟨G, g, none⟩ = some (.slice (some ⟨A, lo * 3, none⟩) (s - lo) (s - lo)) ∧ w'.cell? ⟨w2.heap.size + 2, 0, none⟩ = some (.string s1) ∧ w'.cell? ⟨w2.heap.size + 2, 1, none⟩ = some (.int .u8 0) ∧ w'.cell? ⟨w2.heap.size + 2, 2, none⟩ = some (.string s2)) (go_keep)
                    ((refine step_grow rfl (.tmp 93) (.tmp 95) rfl _ A (lo * 3) (s - lo) olds s1 0 s2 (by rfl) HOL.out (fun j u hj => cell_alloc (HOD.out j u hj) _) _ (by rfl) (by simp) (by simp) (by simp) (by omega) ?_; rintro v' w4 ⟨ao4, cap4, rfl⟩ hb4; have j0 := (hb4.cell (p := ⟨G, g, none⟩) (by simp; omega)).trans (cell_alloc cR _); have j1 := (hb4.cell (p := ⟨w2.heap.size + 2, 0, none⟩) (by simp; omega)).trans (cell_alloc k0 _); have j2 := (hb4.cell (p := ⟨w2.heap.size + 2, 1, none⟩) (by simp; omega)).trans (cell_alloc k1 _); have j3 := (hb4.cell (p := ⟨w2.heap.size + 2, 2, none⟩) (by simp; omega)).trans (cell_alloc k2 _)))
                  have hb5 := below_undrew hb4
                  have hmk5 := (hmk.below ((Below.refl _ _).alloc (Nat.le_refl _) _)).below hb5
                  have hb6 := (hbr.alloc hbr.size _).trans (hb5.mono (by have := hbr.size; simp; omega))
                  clear hb4 hb5 hmk hbr k0 k1 k2
                  go_wp2
                  go_roundw
                  case rel => exact ⟨g + 1, by omega, by go_num, hmk5, hb6⟩
                  case measure => simp [intOf]; omega
                · have hbw := hb.trans (hbr.mono hb.size)
                  have hb2r := hb2.trans (hbr.mono hb2.size)
                  go_wp2_with fail
                  refine (matches_any a0 a1 a2 aT aS aE aG A G fs vs zs cap0 cap1 cap2 capT capS capE capG l T S E P _ h0 HLL.out hZ (hS.below hbw) (hN.below hbw) (hV.below hbw) (hNT.below hb2r) hcT HLS.out (hNS.below hb2r) (hNE.below hb2r) (hNG.below hbr) hL hpr (hrs.below hbr) (har.below hbr)).mono ?_
                  rintro e w5 ⟨rfl, hb5⟩
                  have hbw5 := hbw.trans (hb5.mono hbw.size)
                  have hb25 := hbr.trans (hb5.mono hbr.size)
                  by_cases hE0 : E = []
                  · subst hE0
                    go_wp2
                    go_ret
                    exact ⟨rfl, hbw5⟩
                  · have hEl : 0 < E.length := List.length_pos_iff.2 hE0
                    obtain ⟨e, he⟩ : ∃ e, E[0]? = some e := ⟨_, List.getElem?_eq_getElem hEl⟩
                    obtain ⟨s, hs⟩ : ∃ s, S[0]? = some s := ⟨_, List.getElem?_eq_getElem (by rw [HES.out]; exact hEl)⟩
                    have heT : e ≤ T.length := (hL.2.2.1.2 0 s e hs he).2.2.2.1
                    have hTb : T.length ≤ 1000000000 := Nat.le_trans hL.2.2.2.2.1 hpr
                    obtain ⟨bE, offE, haE, cE⟩ := hNE 0 e he
                    subst haE
                    have gE : bE < w1.heap.size := World.block_lt_of_cell? _ _ cE
                    have dE : w5.cell? ⟨bE, offE, none⟩ = some (.int .i64 (e : Int)) := (hb2.trans (hb25.mono hb2.size)).cell (p := ⟨bE, offE, none⟩) gE ▸ cE
                    obtain ⟨gg, haG, hgg, cG, fG⟩ := OwnI.head (ownsRow_below ho hb25) he
                    subst haG
                    have hne1 : ¬ bE = gg := by omega
                    have hne2 : ¬ gg = bE := by omega
                    have hE1 : ((E.length : Int) == 0) = false := by rw [beq_eq_false_iff_ne]; omega
                    have hEi : (0 : Int) < E.length := by omega
                    have hww : w.heap.size ≤ gg := by have := hb1.size; omega
                    have hfin := hbw5.setCell (p := ⟨gg, 0, none⟩) hww (.int .i64 ((e : Int) + 1))
                    clear hE0 he hs cE
                    go_wp2
                    go_ret
                    exact ⟨rfl, hfin⟩
            · go_wp2
              go_ret
              exact ⟨rfl, Below.refl _ _⟩
        · go_enter Try.func10, Try.ntmps10
          go_wp2_with (go_at_call 32; refine HZB.out.mono ?_; rintro e w' ⟨⟨b, rfl⟩, rfl⟩; cases b)
          all_goals
            go_ret
            exact ⟨rfl, Below.refl _ _⟩
      · go_enter Try.func10, Try.ntmps10
        go_wp2_with (go_at_call 32; refine HZB.out.mono ?_; rintro e w' ⟨⟨b, rfl⟩, rfl⟩; cases b)
        all_goals
          go_ret
          exact ⟨rfl, Below.refl _ _⟩
    · go_enter Try.func10, Try.ntmps10
      go_wp2_with (go_at_call 32; refine HZB.out.mono ?_; rintro e w' ⟨⟨b, rfl⟩, rfl⟩; cases b)
      all_goals
        go_ret
        exact ⟨rfl, Below.refl _ _⟩
  · go_enter Try.func10, Try.ntmps10
    go_wp2_with (go_at_call 32; refine HZB.out.mono ?_; rintro e w' ⟨⟨b, rfl⟩, rfl⟩; cases b)
    all_goals
      go_ret
      exact ⟨rfl, Below.refl _ _⟩
end Go.Proofs.Qxb6600096a
