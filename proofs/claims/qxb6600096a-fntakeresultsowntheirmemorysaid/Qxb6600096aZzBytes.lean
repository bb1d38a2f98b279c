/-
  The bounds on total length ahead of the laws over take: some Bool comes back, nothing turns.
-/
import Derived.Test.Qxb6600096aSmall
namespace Go.Proofs.Qxb6600096a
open Go.RowKit

set_option maxHeartbeats 1000000 in
theorem zzBytes9_any (a a1 a2 a3 : Option Addr) (ss vs : List ByteArray) (len1 len3 cap cap1 cap2 cap3 : Nat) (w : World) (hl : ss.length ≤ maxLen) (hl2 : vs.length ≤ maxLen) (hS : Strs w a ss) (hV : Strs w a2 vs) :
    Calls Try.prog 28 #[.slice a ss.length cap, .slice a1 len1 cap1, .slice a2 vs.length cap2, .slice a3 len3 cap3] w fun e w' => RetBool e ∧ w' = w := by
  unfold maxLen at *
  go_enter Try.func28, Try.ntmps28
  go_wp2
  · go_ret
    exact ⟨RetBool.mk _, rfl⟩
  go_loop [9, 10] (fun n i => ∃ (k : Nat) (m : Int), k ≤ ss.length ∧ i = .int .i64 k ∧ n = .int .i64 m) (fun _ i => ss.length - (intOf i).toNat)
  case atStart => exact ⟨0, _, Nat.zero_le _, rfl, rfl⟩
  case round =>
    obtain ⟨k, m, hk, rfl, rfl⟩ := hrel
    by_cases hlt : k < ss.length
    · obtain ⟨s, hs⟩ : ∃ s, ss[k]? = some s := ⟨_, List.getElem?_eq_getElem hlt⟩
      obtain ⟨b, off, rfl, hc, hsz⟩ := hS k s hs
      clear hs
      go_wp2
      · go_ret
        exact ⟨RetBool.mk _, rfl⟩
      · go_ret
        exact ⟨RetBool.mk _, rfl⟩
      · go_round
        case rel => exact ⟨k + 1, _, by omega, by go_num, rfl⟩
        case measure => simp [intOf]; omega
    · go_wp2
      iterate 4
        go_ret
        exact ⟨RetBool.mk _, rfl⟩
      go_loop [9, 11] (fun n i => ∃ (k : Nat) (m : Int), k ≤ vs.length ∧ i = .int .i64 k ∧ n = .int .i64 m) (fun _ i => vs.length - (intOf i).toNat)
      case atStart => exact ⟨0, _, Nat.zero_le _, rfl, rfl⟩
      case round =>
        obtain ⟨k2, m2, hk2, rfl, rfl⟩ := hrel
        by_cases hlt2 : k2 < vs.length
        · obtain ⟨s, hs⟩ : ∃ s, vs[k2]? = some s := ⟨_, List.getElem?_eq_getElem hlt2⟩
          obtain ⟨b, off, rfl, hc, hsz⟩ := hV k2 s hs
          clear hs
          go_wp2
          · go_ret
            exact ⟨RetBool.mk _, rfl⟩
          · go_ret
            exact ⟨RetBool.mk _, rfl⟩
          · go_round
            case rel => exact ⟨k2 + 1, _, by omega, by go_num, rfl⟩
            case measure => simp [intOf]; omega
        · go_wp2
          all_goals
            go_ret
            exact ⟨RetBool.mk _, rfl⟩

set_option maxHeartbeats 1000000 in
theorem zzBytes10_any (a a1 a2 a3 : Option Addr) (ss vs : List ByteArray) (len1 len3 cap cap1 cap2 cap3 : Nat) (w : World) (hl : ss.length ≤ maxLen) (hl2 : vs.length ≤ maxLen) (hS : Strs w a ss) (hV : Strs w a2 vs) :
    Calls Try.prog 32 #[.slice a ss.length cap, .slice a1 len1 cap1, .slice a2 vs.length cap2, .slice a3 len3 cap3] w fun e w' => RetBool e ∧ w' = w := by
  unfold maxLen at *
  go_enter Try.func32, Try.ntmps32
  go_wp2
  · go_ret
    exact ⟨RetBool.mk _, rfl⟩
  go_loop [9, 10] (fun n i => ∃ (k : Nat) (m : Int), k ≤ ss.length ∧ i = .int .i64 k ∧ n = .int .i64 m) (fun _ i => ss.length - (intOf i).toNat)
  case atStart => exact ⟨0, _, Nat.zero_le _, rfl, rfl⟩
  case round =>
    obtain ⟨k, m, hk, rfl, rfl⟩ := hrel
    by_cases hlt : k < ss.length
    · obtain ⟨s, hs⟩ : ∃ s, ss[k]? = some s := ⟨_, List.getElem?_eq_getElem hlt⟩
      obtain ⟨b, off, rfl, hc, hsz⟩ := hS k s hs
      clear hs
      go_wp2
      · go_ret
        exact ⟨RetBool.mk _, rfl⟩
      · go_ret
        exact ⟨RetBool.mk _, rfl⟩
      · go_round
        case rel => exact ⟨k + 1, _, by omega, by go_num, rfl⟩
        case measure => simp [intOf]; omega
    · go_wp2
      iterate 4
        go_ret
        exact ⟨RetBool.mk _, rfl⟩
      go_loop [9, 11] (fun n i => ∃ (k : Nat) (m : Int), k ≤ vs.length ∧ i = .int .i64 k ∧ n = .int .i64 m) (fun _ i => vs.length - (intOf i).toNat)
      case atStart => exact ⟨0, _, Nat.zero_le _, rfl, rfl⟩
      case round =>
        obtain ⟨k2, m2, hk2, rfl, rfl⟩ := hrel
        by_cases hlt2 : k2 < vs.length
        · obtain ⟨s, hs⟩ : ∃ s, vs[k2]? = some s := ⟨_, List.getElem?_eq_getElem hlt2⟩
          obtain ⟨b, off, rfl, hc, hsz⟩ := hV k2 s hs
          clear hs
          go_wp2
          · go_ret
            exact ⟨RetBool.mk _, rfl⟩
          · go_ret
            exact ⟨RetBool.mk _, rfl⟩
          · go_round
            case rel => exact ⟨k2 + 1, _, by omega, by go_num, rfl⟩
            case measure => simp [intOf]; omega
        · go_wp2
          all_goals
            go_ret
            exact ⟨RetBool.mk _, rfl⟩

end Go.Proofs.Qxb6600096a
