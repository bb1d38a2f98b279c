/-
  zzSameAlt, zzSameBytes: equal things are found equal.
-/
import Derived.Test.Qxb6600096aSmall
import Derived.Deep.QuietTactic
import Derived.BigQuiet
namespace Go.Proofs.Qxb6600096a
open Go.RowKit

set_option maxHeartbeats 400000 in
theorem sameAlt_any (f v : ByteArray) (c : Int) (w : World) :
    Calls Try.prog 36 #[.agg #[.string f, .int .u8 c, .string v], .string f, .int .u8 c, .string v] w fun e w' => e = .returned (.bool true) ∧ w' = w.alloc (.cells #[.string f, .int .u8 c, .string v] 29) := by
  go_enter Try.func36, Try.ntmps36
  go_wp2
  go_ret
  exact ⟨rfl, rfl⟩

set_option maxHeartbeats 400000 in
theorem sameBytes_any (a b : Option Addr) (xs : List Int) (cap cap' : Nat) (w : World) (hl : xs.length ≤ 1099511627776) (ha : Nums .u8 w a xs) (hb : Nums .u8 w b xs) :
    Calls Try.prog 23 #[.slice a xs.length cap, .slice b xs.length cap'] w fun e w' => e = .returned (.bool true) ∧ ∃ m, w' = w.drewN m := by
  go_enter Try.func23, Try.ntmps23
  go_wp2
  go_loopw [5] (fun i wr => ∃ k q : Nat, k ≤ xs.length ∧ i = .int .i64 k ∧ wr = w.drewN q) (fun i _ => xs.length - (intOf i).toNat)
  case atStart => exact ⟨0, 0, Nat.zero_le _, rfl, rfl⟩
  case round =>
    obtain ⟨k, q, hk, rfl, rfl⟩ := hrel
    by_cases hlt : k < xs.length
    · obtain ⟨z, hz⟩ : ∃ z, xs[k]? = some z := ⟨_, List.getElem?_eq_getElem hlt⟩
      obtain ⟨b1, off1, rfl, c1⟩ := ha k z hz
      obtain ⟨b2, off2, rfl, c2⟩ := hb k z hz
      have hki : (k : Int) < xs.length := by omega
      clear hz
      go_wp2
      go_region
      all_goals go_wp2
      go_roundw
      case rel => exact ⟨k + 1, q + 1, by omega, by go_num, rfl⟩
      case measure => simp [intOf]; omega
    · go_wp2
      go_ret
      exact ⟨rfl, q, rfl⟩
end Go.Proofs.Qxb6600096a
