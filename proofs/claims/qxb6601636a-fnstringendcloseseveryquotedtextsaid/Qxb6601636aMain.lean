/-
  FnStringEndClosesEveryQuotedText: the walk.
-/
import Derived.Test.Qxb6601636aClone
namespace Go.Proofs.Qxb6601636a
open Go.RowKit

def Own (B : Nat) (w : World) (v : Value) (xs : List Int) : Prop := w.ownsRow B 5 1 v xs.length (xs.map (Value.int .u8))
theorem Own.shape {B : Nat} {w : World} {v : Value} {xs : List Int} (h : Own B w v xs) : ∃ ao cap, v = .slice ao xs.length cap ∧ xs.length ≤ cap ∧ (xs ≠ [] → ∃ g, ao = some ⟨g, 0, none⟩ ∧ TextAt w g 0 xs) := by
  rcases h.2 with ⟨hv, hn⟩ | ⟨g, cap, cur, hv, hg, hh, hnc, hcm, hcs, htake⟩
  · exact ⟨none, 0, by rw [hn]; exact hv, by omega, fun hne => absurd (List.eq_nil_of_length_eq_zero hn) hne⟩
  · refine ⟨_, cap, hv, hnc, fun _ => ⟨g, rfl, fun i z hz => ?_⟩⟩
    have := h.cells (g := g) (by rw [hv]; rfl) i (.int .u8 z) (by simp [hz])
    rwa [Addr.add_lit] at this

section
variable {ops : Array Oper} {rest : List Oper} {o : Oper} {a : Act} {Q : Exit → Act → World → Prop}
theorem wpList_app1 (hgd : o.guard = none) (s x : Operand) (ho : o.op = .call { callee := .builtin .append, args := #[s, x], argTypes := #[22, 22] })
    (B : Nat) (W : World) (c : Int) (v : Value) (xs : List Int) (hs : a.eval s = v) (H : Nat) (hx : a.eval x = .slice (some ⟨H, 0, none⟩) 1 1) (hH : W.heap.size = H) (hown : Own B W v xs) (hB : B ≤ W.heap.size) (hlen : xs.length + 1 ≤ 1099511627776)
    (h : ∀ v' w', Own B w' v' (xs ++ [c]) → Below B W w' → wpList Try.prog ops Q rest (a.put o.dst v') w') : wpList Try.prog ops Q (o :: rest) a (W.alloc (.cells #[.int .u8 c] 5)) := by
  obtain ⟨i, hi, hz0, hz1, hz2⟩ := info_parts Try.info5
  subst hH
  refine wpList_append_own _ hgd s x 22 ho B 5 i (.int .u8 0) 1 1 Try.underlying22 hi hz0 hz1 hz2 rfl (by decide) v _ _ hs (World.ownsRow.alloc hown _) ⟨W.heap.size, 0, none⟩ 1 1 [.int .u8 c] hx rfl (cell_one_new _ _ _) (by intro u hu; simp at hu; subst hu; rfl)
    (by unfold maxLen; omega) (by omega) (by simp; omega) fun v' w' h1 h2 _ => ?_
  have hsz : B ≤ (W.alloc (.cells #[.int .u8 c] 5)).heap.size := by simp; omega
  exact h v' w' (by unfold Own; simpa using h1) (((Below.refl B W).alloc hB _).grown h2 hsz fun k hk => (World.ownsRow.lt hown k hk).1)

theorem wpList_appP (hgd : o.guard = none) (s x : Operand) (ho : o.op = .call { callee := .builtin .append, args := #[s, x], argTypes := #[22, 22] })
    (B : Nat) (W : World) (v : Value) (xs ys : List Int) (ao : Option Addr) (cap : Nat) (hs : a.eval s = v) (hx : a.eval x = .slice ao ys.length cap) (hown : Own B W v xs) (hys : Nums W ao ys) (hc0 : ao = none → cap = 0) (hB : B ≤ W.heap.size) (hlen : xs.length + ys.length ≤ 1099511627776)
    (h : ∀ v' w', Own B w' v' (xs ++ ys) → Below B W w' → wpList Try.prog ops Q rest (a.put o.dst v') w') : wpList Try.prog ops Q (o :: rest) a W := by
  obtain ⟨i, hi, hz0, hz1, hz2⟩ := info_parts Try.info5
  cases ao with
  | none =>
    have hy : ys = [] := by
      cases ys with
      | nil => rfl
      | cons y r => obtain ⟨_, _, e, _⟩ := hys 0 y rfl; cases e
    subst hy
    refine wpList_append_own_none hgd s x 22 ho B 5 i 1 Try.underlying22 hi v _ _ hs hown (by rw [hx, hc0 rfl]; rfl) ?_
    exact h v W (by simpa using hown) (Below.refl _ _)
  | some ad =>
    refine wpList_append_own _ hgd s x 22 ho B 5 i (.int .u8 0) 1 1 Try.underlying22 hi hz0 hz1 hz2 rfl (by decide) v _ _ hs hown ad ys.length cap (ys.map (Value.int .u8)) hx (by simp) ?_ (ints_oneCell _ _)
      (by unfold maxLen; omega) (by omega) hB fun v' w' h1 h2 _ => ?_
    · intro j u hj
      rw [List.getElem?_map] at hj
      obtain ⟨z, hz, rfl⟩ := Option.map_eq_some_iff.1 hj
      obtain ⟨b', off', e, hc⟩ := hys j z hz
      obtain rfl := Option.some.inj e
      rw [Addr.add_lit]; exact hc
    · exact h v' w' (by unfold Own; simpa using h1) ((Below.refl _ _).grown h2 hB fun k hk => (World.ownsRow.lt hown k hk).1)
end

set_option maxHeartbeats 400000 in
theorem zzEnd_any (b off cap s : Nat) (T R0 tail : List Int) (w : World) (hby : BytesL T) (hT : TextAt w b off T) (hcap : T.length ≤ cap) (hlen : T.length ≤ 1073741824) (hs : T.drop (s + 1) = qs R0 ++ 34 :: tail) :
    Calls Try.prog 19 #[.slice (some ⟨b, off, none⟩) T.length cap, .int .i64 s] w fun e w' => e = .returned (.int .i64 ((s + 1 + (qs R0).length + 1 : Nat) : Int)) ∧ w' = w := by
  have H := hide (stringEnd_any b off cap s T R0 tail w hby hT hcap hlen hs)
  clear hs hT hby
  go_enter Try.func19, Try.ntmps19
  go_wp2_with (go_at_call 26; refine H.out.mono ?_; rintro e w' ⟨rfl, hw⟩; obtain rfl := hw.symm; clear hw)
  go_ret
  exact ⟨rfl, rfl⟩

theorem ret_bool {a b : Bool} (h : a = b) : Ending.returned (.bool a) = .returned (.bool b) := by rw [h]
def RetBool (e : Ending) : Prop := ∃ b : Bool, e = .returned (.bool b)
set_option maxHeartbeats 400000 in
theorem zzBytes_any (a0 a1 a2 : Option Addr) (n0 n1 n2 c0 c1 c2 : Nat) (w : World) :
    Calls Try.prog 20 #[.slice a0 n0 c0, .slice a1 n1 c1, .slice a2 n2 c2] w fun e w' => RetBool e ∧ w' = w := by
  go_enter Try.func20, Try.ntmps20
  go_wp2
  all_goals
    go_ret
    exact ⟨⟨_, rfl⟩, rfl⟩

theorem qs_take_len (l : List Int) (k : Nat) : (qs (l.take k)).length ≤ (qs l).length := by
  have e : qs l = qs (l.take k) ++ qs (l.drop k) := by rw [← qs_append, List.take_append_drop]
  rw [e, List.length_append]; omega
theorem qs_step {l : List Int} {k : Nat} {z : Int} (h : l[k]? = some z) : qs (l.take (k + 1)) = qs (l.take k) ++ q1 z := by
  rw [List.take_add_one, h]; exact qs_snoc _ _
theorem bytes_qs {l : List Int} (h : BytesL l) : BytesL (qs l) := fun z hz => by
  obtain ⟨c, hc, hz'⟩ := List.mem_flatMap.1 hz
  have hcb := h c hc
  unfold q1 at hz'
  split at hz'
  · have : z = 92 ∨ z = c := by simpa using hz'
    rcases this with rfl | rfl
    · omega
    · exact hcb
  · obtain rfl : z = c := by simpa using hz'
    exact hcb
theorem bytes_text {P R L : List Int} (hP : BytesL P) (hR : BytesL R) (hL : BytesL L) : BytesL (P ++ [34] ++ qs R ++ [34] ++ L) := fun z hz => by
  simp only [List.mem_append, List.mem_singleton] at hz
  rcases hz with (((h | h) | h) | h) | h
  · exact hP z h
  · omega
  · exact bytes_qs hR z h
  · omega
  · exact hL z h
theorem text_drop (P R L : List Int) : (P ++ [34] ++ qs R ++ [34] ++ L).drop (P.length + 1) = qs R ++ 34 :: L := by
  have e : P ++ [34] ++ qs R ++ [34] ++ L = (P ++ [34]) ++ (qs R ++ 34 :: L) := by simp
  rw [e, show P.length + 1 = (P ++ [34]).length by simp, List.drop_left]

set_option maxRecDepth 100000 in
set_option maxHeartbeats 1000000 in
theorem main_any (a0 a1 a2 : Option Addr) (P R L : List Int) (cap0 cap1 cap2 : Nat) (w : World) (hP : Nums w a0 P) (hR : Nums w a1 R) (hL : Nums w a2 L) (n0 : a0 = none → P = []) (n1 : a1 = none → R = []) (n2 : a2 = none → L = [])
    (bP : BytesL P) (bR : BytesL R) (bL : BytesL L) :
    Calls Try.prog 7 #[.slice a0 P.length cap0, .slice a1 R.length cap1, .slice a2 L.length cap2] w fun e w' => e = .returned (.bool true) ∧ Below w.heap.size w w' := by
  have HZ := hide (zzBytes_any a0 a1 a2 P.length R.length L.length cap0 cap1 cap2 w)
  by_cases h0 : P.length ≤ 262144
  · by_cases h1 : R.length ≤ 262144
    · by_cases h2 : L.length ≤ 262144
      · go_enter Try.func7, Try.ntmps7
        go_wp2_with (go_at_call 20; refine HZ.out.mono ?_; rintro e w' ⟨⟨b, rfl⟩, hw⟩; obtain rfl := hw.symm; clear hw; cases b)
        · go_ret
          exact ⟨rfl, Below.refl _ _⟩
        · refine (clone_any a0 P cap0 _ (by omega) hP n0).mono ?_
          rintro e w1 ⟨b0, d0, rfl, hP1, hb1, z0⟩
          go_wp2_with fail
          refine (clone_any a1 R cap1 _ (by omega) (hR.below hb1) n1).mono ?_
          rintro e w2 ⟨b1, d1, rfl, hR2, hb2, z1⟩
          have hb12 := hb1.trans (hb2.mono hb1.size)
          go_wp2_with fail
          refine (clone_any a2 L cap2 _ (by omega) (hL.below hb12) n2).mono ?_
          rintro e w3 ⟨b2, d2, rfl, hL3, hb3, z2⟩
          have hb := hb12.trans (hb3.mono hb12.size)
          have hP3 := (hP1.below hb2).below hb3
          have hR3 := hR2.below hb3
          have hb3s := hb.size
          clear hP1 hR2 hb1 hb2 hb3 hb12
          obtain ⟨i0, hi, iz0, iz1, iz2⟩ := info_parts Try.info5
          go_wp2_with (at_make; refine wpList_make_own _ rfl _ _ 22 rfl w3.heap.size 5 i0 (.int .u8 0) 1 Try.underlying22 hi iz0 iz1 .i64 .i64 _ (P.length + 2 * R.length + 2 + L.length) rfl rfl ?c1 ?c2 ?c3 (Nat.le_refl _) ?_)
          case c1 => omega
          case c2 => rw [iz2]; omega
          case c3 => unfold maxLen; omega
          intro w4 ho4 hg4
          have hb4 : Below w3.heap.size w3 w4 := (Below.refl _ _).grown hg4 (Nat.le_refl _) (fun k hk => by cases hk)
          have ho : Own w3.heap.size w4 (.slice (some ⟨w3.heap.size, 0, none⟩) 0 (P.length + 2 * R.length + 2 + L.length)) [] := ho4
          have hs4 := hb4.size
          have hP4 := hP3.below hb4
          clear ho4 hg4 hi iz0 iz1 iz2
          go_wp2_with (at_builtin; refine wpList_appP rfl (.tmp 42) (.tmp 43) rfl w3.heap.size _ _ [] P _ _ rfl rfl ho hP4 z0 hs4 (by simp; omega) ?_)
          intro v5 w5 ho5 hb5
          have hb5' := hb4.trans hb5
          have hs5 := hb5'.size
          clear ho hb4 hs4 hb5 hP4
          go_wp2_with (at_builtin; refine wpList_app1 rfl (.tmp 45) (.tmp 46) rfl w3.heap.size _ 34 _ _ rfl _ rfl rfl ho5 hs5 (by omega) ?_)
          intro v6 w6 ho6 hb6
          have hb6' := hb5'.trans hb6
          clear ho5 hb5' hb6 hs5
          go_wp2
          go_loopw [7, 8] (fun v iv wr => ∃ k : Nat, k ≤ R.length ∧ iv = .int .i64 k ∧ Own w3.heap.size wr v (P ++ [34] ++ qs (R.take k)) ∧ Below w3.heap.size w3 wr) (fun _ iv _ => R.length - (intOf iv).toNat)
          case atStart => exact ⟨0, Nat.zero_le _, rfl, by simpa [qs_nil] using ho6, hb6'⟩
          case round =>
            clear ho6 hb6'
            obtain ⟨k, hk, rfl, ho, hbr⟩ := hrel
            have hsr := hbr.size
            have hql := qs_take_len R k
            have hqR := qs_len R
            by_cases hlt : k < R.length
            · obtain ⟨z, hz⟩ : ∃ z, R[k]? = some z := ⟨_, List.getElem?_eq_getElem hlt⟩
              obtain ⟨bb, off, e, hc⟩ := (hR3.below hbr) k z hz
              subst e
              have HS := hide (qs_step hz)
              have hq2 := q1_len z
              have hki : (k : Int) < R.length := by omega
              clear hz
              cases h34 : (z == 34) with
              | true =>
                have HQ := hide (q1_yes (c := z) (by simp [qB, h34]))
                go_wp2_with (at_builtin; refine wpList_app1 rfl (.tmp 64) (.tmp 65) rfl w3.heap.size _ 92 _ _ rfl _ rfl rfl ho hsr (by simp; omega) ?_)
                intro v7 w7 ho7 hb7
                have hb7' := hbr.trans hb7
                have hs7 := hb7'.size
                clear ho hbr hb7 hsr hc
                go_wp2_with (at_builtin; refine wpList_app1 rfl (.tmp 67) (.tmp 69) rfl w3.heap.size _ z _ _ rfl _ rfl rfl ho7 hs7 (by simp; omega) ?_)
                intro v8 w8 ho8 hb8
                have hb8' := hb7'.trans hb8
                clear ho7 hb7' hb8 hs7
                go_wp2
                go_roundw
                case rel => exact ⟨k + 1, by omega, by go_num, by rw [HS.out, HQ.out]; simpa [List.append_assoc] using ho8, hb8'⟩
                case measure => simp [intOf]; omega
              | false =>
                cases h92 : (z == 92) with
                | true =>
                  have HQ := hide (q1_yes (c := z) (by simp [qB, h92]))
                  go_wp2_with (at_builtin; refine wpList_app1 rfl (.tmp 64) (.tmp 65) rfl w3.heap.size _ 92 _ _ rfl _ rfl rfl ho hsr (by simp; omega) ?_)
                  intro v7 w7 ho7 hb7
                  have hb7' := hbr.trans hb7
                  have hs7 := hb7'.size
                  clear ho hbr hb7 hsr hc
                  go_wp2_with (at_builtin; refine wpList_app1 rfl (.tmp 67) (.tmp 69) rfl w3.heap.size _ z _ _ rfl _ rfl rfl ho7 hs7 (by simp; omega) ?_)
                  intro v8 w8 ho8 hb8
                  have hb8' := hb7'.trans hb8
                  clear ho7 hb7' hb8 hs7
                  go_wp2
                  go_roundw
                  case rel => exact ⟨k + 1, by omega, by go_num, by rw [HS.out, HQ.out]; simpa [List.append_assoc] using ho8, hb8'⟩
                  case measure => simp [intOf]; omega
                | false =>
                  have HQ := hide (q1_no (c := z) (by simp [qB, h34, h92]))
                  go_wp2_with (at_builtin; refine wpList_app1 rfl (.tmp 67) (.tmp 69) rfl w3.heap.size _ z _ _ rfl _ rfl rfl ho hsr (by simp; omega) ?_)
                  intro v8 w8 ho8 hb8
                  have hb8' := hbr.trans hb8
                  clear ho hbr hb8 hsr hc
                  go_wp2
                  go_roundw
                  case rel => exact ⟨k + 1, by omega, by go_num, by rw [HS.out, HQ.out]; simpa [List.append_assoc] using ho8, hb8'⟩
                  case measure => simp [intOf]; omega
            · have eR : R.take k = R := List.take_of_length_le (by omega)
              rw [eR] at ho
              clear eR hql
              go_wp2_with (at_builtin; refine wpList_app1 rfl (.tmp 71) (.tmp 72) rfl w3.heap.size _ 34 _ _ rfl _ rfl rfl ho hsr (by simp; omega) ?_)
              intro v7 w7 ho7 hb7
              have hb7' := hbr.trans hb7
              have hs7 := hb7'.size
              obtain ⟨a7, c7, hv7, _, _⟩ := ho7.shape
              subst hv7
              have hL7 := hL3.below hb7'
              clear ho hbr hb7 hsr
              go_wp2_with (at_builtin; refine wpList_appP rfl (.tmp 76) (.tmp 77) rfl w3.heap.size _ _ _ L _ _ rfl rfl ho7 hL7 z2 hs7 (by simp; omega) ?_)
              intro v8 w8 ho8 hb8
              have hb8' := hb7'.trans hb8
              obtain ⟨T, hTe⟩ : ∃ T, T = P ++ [34] ++ qs R ++ [34] ++ L := ⟨_, rfl⟩
              have ho8' : Own w3.heap.size w8 v8 T := by rw [hTe]; simpa [List.append_assoc] using ho8
              have htl : T.length ≤ 1073741824 := by rw [hTe]; simp; omega
              have htd : T.drop (P.length + 1) = qs R ++ 34 :: L := by rw [hTe]; exact text_drop P R L
              have htb : BytesL T := by rw [hTe]; exact bytes_text bP bR bL
              have htn : T ≠ [] := by rw [hTe]; simp
              obtain ⟨a8, c8, hv8, hc8, hne⟩ := ho8'.shape
              subst hv8
              obtain ⟨g, hga, htx⟩ := hne htn
              subst hga
              have HE := hide (zzEnd_any g 0 c8 P.length T R L w8 htb htx hc8 htl htd)
              have hfin := hb.trans (hb8'.mono hb3s)
              clear ho7 ho8 ho8' hb7' hb8 hb8' hL7 htx hTe htd htb htn hne
              go_wp2_with fail
              refine HE.out.mono ?_
              rintro e w' ⟨rfl, hw⟩
              obtain rfl := hw.symm
              clear hw
              go_wp2
              go_ret
              exact ⟨ret_bool (by rw [beq_iff_eq]; omega), hfin⟩
      · go_enter Try.func7, Try.ntmps7
        go_wp2_with (go_at_call 20; refine HZ.out.mono ?_; rintro e w' ⟨⟨b, rfl⟩, rfl⟩; cases b)
        all_goals
          go_ret
          exact ⟨rfl, Below.refl _ _⟩
    · go_enter Try.func7, Try.ntmps7
      go_wp2_with (go_at_call 20; refine HZ.out.mono ?_; rintro e w' ⟨⟨b, rfl⟩, rfl⟩; cases b)
      all_goals
        go_ret
        exact ⟨rfl, Below.refl _ _⟩
  · go_enter Try.func7, Try.ntmps7
    go_wp2_with (go_at_call 20; refine HZ.out.mono ?_; rintro e w' ⟨⟨b, rfl⟩, rfl⟩; cases b)
    all_goals
      go_ret
      exact ⟨rfl, Below.refl _ _⟩
end Go.Proofs.Qxb6601636a
