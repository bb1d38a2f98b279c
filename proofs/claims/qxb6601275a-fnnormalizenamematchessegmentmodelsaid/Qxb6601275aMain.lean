/-
  FnNormalizeNameMatchesSegmentModel: the walk.
-/
import Derived.Test.Qxb6601275aName
namespace Go.Proofs.Qxb6601275a
open Go.RowKit

def RetBool (e : Ending) : Prop := ∃ b : Bool, e = .returned (.bool b)
set_option maxHeartbeats 400000 in
theorem zzBytes_any (s : ByteArray) (w : World) : Calls Try.prog 8 #[.string s] w fun e w' => RetBool e ∧ w' = w := by
  go_enter Try.func8, Try.ntmps8
  go_wp2
  all_goals
    go_ret
    exact ⟨⟨_, rfl⟩, rfl⟩

set_option maxHeartbeats 400000 in
theorem zzName_any (s : ByteArray) (w : World) (hs : s.size ≤ 1048576) :
    Calls Try.prog 9 #[.string s] w fun e w' => RetStr e (norm (bts s)) ∧ Below w.heap.size w w' := by
  have H := hide (name_any s w hs)
  go_enter Try.func9, Try.ntmps9
  go_wp2_with fail
  refine H.out.mono ?_
  rintro e w' ⟨⟨v, rfl, hv⟩, hb⟩
  go_wp2
  go_ret
  exact ⟨⟨_, rfl, hv⟩, hb⟩

set_option maxHeartbeats 400000 in
theorem main_any (s : ByteArray) (w : World) : Calls Try.prog 3 #[.string s] w fun e w' => e = .returned (.bool true) ∧ Below w.heap.size w w' := by
  have HZ := hide (zzBytes_any s w)
  by_cases hs : s.size ≤ 1048576
  · have HN := hide (zzName_any s w hs)
    go_enter Try.func3, Try.ntmps3
    go_wp2_with fail
    refine HZ.out.mono ?_
    rintro e w' ⟨⟨b, rfl⟩, hw⟩
    obtain rfl := hw.symm
    clear hw
    cases b
    · go_wp2
      go_ret
      exact ⟨rfl, Below.refl _ _⟩
    · go_wp2_with fail
      refine HN.out.mono ?_
      rintro e w1 ⟨⟨v, rfl, hv⟩, hb1⟩
      have HV := hide hv
      clear hv
      go_wp2_with fail
      refine (zz_any s w1 hs).mono ?_
      rintro e w2 ⟨⟨v2, rfl, hv2⟩, hb2⟩
      obtain rfl : v = v2 := bts_inj (HV.out.trans hv2.symm)
      have hb := hb1.trans (hb2.mono hb1.size)
      clear hv2 HV hb1 hb2
      go_wp2
      go_ret
      exact ⟨rfl, hb⟩
  · go_enter Try.func3, Try.ntmps3
    go_wp2_with fail
    refine HZ.out.mono ?_
    rintro e w' ⟨⟨b, rfl⟩, hw⟩
    obtain rfl := hw.symm
    clear hw
    cases b
    · go_wp2
      go_ret
      exact ⟨rfl, Below.refl _ _⟩
    · go_wp2
      go_ret
      exact ⟨rfl, Below.refl _ _⟩
end Go.Proofs.Qxb6601275a
