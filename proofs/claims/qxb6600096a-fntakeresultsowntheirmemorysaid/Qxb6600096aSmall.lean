/-
  The small callees that only read: zzHasByte, zzMin3, zzStringsBytes, zzJoinSafe, zzNoBar, zzBytes_..
-/
import Derived.Test.Qxb6600096aProg
import Derived.Test.Qxb6600096aPlain
import Derived.WalkKit
import Derived.WalkSpells
import Derived.WalkLawsBesides
namespace Go.Proofs.Qxb6600096a
open Go.RowKit

def hasB (s : ByteArray) (c : Int) : Bool := (bts s).any (· == c)

theorem bts_get (s : ByteArray) (k : Nat) (h : k < s.size) : (bts s)[k]? = some ((s[k]'h).toNat : Int) := by
  have h' : k < s.data.toList.length := by simpa using h
  simp only [bts, List.getElem?_map, List.getElem?_eq_getElem h', Option.map_some]
  rfl

theorem bts_take_succ (s : ByteArray) (k : Nat) (h : k < s.size) : (bts s).take (k + 1) = (bts s).take k ++ [((s[k]'h).toNat : Int)] := by
  rw [List.take_add_one, bts_get s k h]; rfl

theorem hasB_step {s : ByteArray} {c : Int} {k : Nat} (h : k < s.size) (hn : ((bts s).take k).any (· == c) = false) (hc : (((s[k]'h).toNat : Int) == c) = false) : ((bts s).take (k + 1)).any (· == c) = false := by
  rw [bts_take_succ s k h, List.any_append, hn]; simpa using hc
theorem hasB_yes {s : ByteArray} {c : Int} {k : Nat} (h : k < s.size) (hc : (((s[k]'h).toNat : Int) == c) = true) : hasB s c = true := by
  unfold hasB
  rw [List.any_eq_true]
  exact ⟨_, List.mem_of_getElem? (bts_get s k h), hc⟩
theorem hasB_no {s : ByteArray} {c : Int} {k : Nat} (h : ¬ k < s.size) (hn : ((bts s).take k).any (· == c) = false) : hasB s c = false := by
  rw [List.take_of_length_le (by rw [bts_length]; omega)] at hn; exact hn

theorem ret_bool {a b : Bool} (h : a = b) : Ending.returned (.bool a) = .returned (.bool b) := by rw [h]

set_option maxHeartbeats 400000 in
theorem hasByte_any (s : ByteArray) (c : Int) (w : World) (hs : s.size ≤ maxLen) :
    Calls Try.prog 15 #[.string s, .int .u8 c] w fun e w' => e = .returned (.bool (hasB s c)) ∧ w' = w := by
  unfold maxLen at hs
  go_enter Try.func15, Try.ntmps15
  go_wp2
  go_loop [5] (fun i => ∃ k : Nat, k ≤ s.size ∧ i = .int .i64 k ∧ ((bts s).take k).any (· == c) = false) (fun i => s.size - (intOf i).toNat)
  case atStart => exact ⟨0, Nat.zero_le _, rfl, rfl⟩
  case round =>
    obtain ⟨k, hk, rfl, hn⟩ := hrel
    have HN : Hid (((bts s).take k).any (· == c) = false) := hn
    clear hn
    by_cases hlt : k < s.size
    · go_wp2
      · go_ret
        exact ⟨ret_bool (hasB_yes hlt ‹_›).symm, rfl⟩
      · go_round
        case rel => exact ⟨k + 1, by omega, by go_num, hasB_step hlt HN.out ‹_›⟩
        case measure => simp [intOf]; omega
    · go_wp2
      go_ret
      exact ⟨ret_bool (hasB_no hlt HN.out).symm, rfl⟩

def min3 (a b c : Nat) : Nat := min (min a b) c
theorem min3_le (a b c : Nat) : min3 a b c ≤ a ∧ min3 a b c ≤ b ∧ min3 a b c ≤ c := by unfold min3; omega

theorem ret_int {k : IntKind} {a b : Int} (h : a = b) : Ending.returned (.int k a) = .returned (.int k b) := by rw [h]

set_option maxHeartbeats 400000 in
theorem min3_any (a b c : Nat) (w : World) :
    Calls Try.prog 21 #[.int .i64 a, .int .i64 b, .int .i64 c] w fun e w' => e = .returned (.int .i64 (min3 a b c)) ∧ w' = w := by
  unfold min3
  go_enter Try.func21, Try.ntmps21
  go_wp2
  all_goals
    go_ret
    exact ⟨ret_int (by omega), rfl⟩

/-- A slice of strings lies there: every element has its cell. -/
def Strs (w : World) (a : Option Addr) (ss : List ByteArray) : Prop :=
  ∀ k s, ss[k]? = some s → ∃ b off, a = some ⟨b, off, none⟩ ∧ w.cell? ⟨b, off + k, none⟩ = some (.string s) ∧ s.size ≤ maxLen
/-- A slice of integers of kind k lies there. -/
def Nums (k : IntKind) (w : World) (a : Option Addr) (zs : List Int) : Prop :=
  ∀ i z, zs[i]? = some z → ∃ b off, a = some ⟨b, off, none⟩ ∧ w.cell? ⟨b, off + i, none⟩ = some (.int k z)

def sizes (ss : List ByteArray) : Nat := (ss.map ByteArray.size).sum
theorem sizes_take_succ {ss : List ByteArray} {k : Nat} {s : ByteArray} (h : ss[k]? = some s) : sizes (ss.take (k + 1)) = sizes (ss.take k) + s.size := by
  unfold sizes
  rw [List.take_add_one, h]; simp

set_option maxHeartbeats 400000 in
theorem stringsBytes_any (a : Option Addr) (ss : List ByteArray) (cap : Nat) (w : World) (hl : ss.length ≤ 65536) (hS : Strs w a ss) :
    Calls Try.prog 19 #[.slice a ss.length cap] w fun e w' => (∃ m : Nat, e = .returned (.int .i64 m) ∧ m ≤ 4194304 ∧ (m ≤ 1048576 → sizes ss ≤ m)) ∧ w' = w := by
  go_enter Try.func19, Try.ntmps19
  go_wp2
  go_loop [3, 4] (fun n i => ∃ k m : Nat, k ≤ ss.length ∧ i = .int .i64 k ∧ n = .int .i64 m ∧ m ≤ 1048576 ∧ sizes (ss.take k) ≤ m) (fun _ i => ss.length - (intOf i).toNat)
  case atStart => exact ⟨0, 16 * ss.length, Nat.zero_le _, rfl, by go_num, by omega, by simp [sizes]⟩
  case round =>
    obtain ⟨k, m, hk, rfl, rfl, hm, hz⟩ := hrel
    by_cases hlt : k < ss.length
    · obtain ⟨s, hs⟩ : ∃ s, ss[k]? = some s := ⟨_, List.getElem?_eq_getElem hlt⟩
      have hst := sizes_take_succ hs
      obtain ⟨b, off, rfl, hc, hsz⟩ := hS k s hs
      have HS : Hid (sizes (ss.take (k + 1)) = sizes (ss.take k) + s.size) := hst
      clear hst hs
      unfold maxLen at hsz
      go_wp2
      · go_ret
        exact ⟨⟨1048577, rfl, by omega, by omega⟩, rfl⟩
      · go_ret
        exact ⟨⟨m + s.size, ret_int (by omega), by omega, by omega⟩, rfl⟩
      · go_round
        case rel => exact ⟨k + 1, m + s.size, by omega, by go_num, by go_num, by omega, by have := HS.out; omega⟩
        case measure => simp [intOf]; omega
    · go_wp2
      go_ret
      rw [List.take_of_length_le (by omega)] at hz
      exact ⟨⟨m, rfl, by omega, fun _ => hz⟩, rfl⟩

theorem hide {p : Prop} (h : p) : Hid p := h

def SafeUpto (ss : List ByteArray) (zs : List Int) (n : Nat) : Prop :=
  ∀ k f c, k < n → ss[k]? = some f → zs[k]? = some c → hasB f 92 = false ∧ hasB f 38 = false ∧ (c == 92) = false ∧ (c == 38) = false
theorem SafeUpto.zero (ss : List ByteArray) (zs : List Int) : SafeUpto ss zs 0 := fun k _ _ h => absurd h (Nat.not_lt_zero k)
theorem SafeUpto.succ {ss : List ByteArray} {zs : List Int} {n : Nat} {f : ByteArray} {c : Int} (h : SafeUpto ss zs n) (hf : ss[n]? = some f) (hc : zs[n]? = some c)
    (h1 : hasB f 92 = false) (h2 : hasB f 38 = false) (h3 : (c == 92) = false) (h4 : (c == 38) = false) : SafeUpto ss zs (n + 1) := by
  intro k f' c' hk hf' hc'
  by_cases e : k = n
  · subst e
    rw [hf] at hf'; rw [hc] at hc'
    obtain rfl := Option.some.inj hf'
    obtain rfl := Option.some.inj hc'
    exact ⟨h1, h2, h3, h4⟩
  · exact h k f' c' (by omega) hf' hc'

/-- A Bool came back; where it is true, p holds. -/
def RetIf (p : Prop) (e : Ending) : Prop := ∃ b : Bool, e = .returned (.bool b) ∧ (b = true → p)
theorem RetIf.no {p : Prop} : RetIf p (.returned (.bool false)) := ⟨false, rfl, fun h => by cases h⟩
theorem RetIf.yes {p : Prop} (h : p) : RetIf p (.returned (.bool true)) := ⟨true, rfl, fun _ => h⟩

set_option maxHeartbeats 800000 in
theorem joinSafe_any (a a1 : Option Addr) (ss : List ByteArray) (zs : List Int) (cap cap1 : Nat) (n : Nat) (w : World) (hl : ss.length ≤ 65536) (hn : n ≤ ss.length) (hn1 : n ≤ zs.length) (hS : Strs w a ss) (hN : Nums .u8 w a1 zs) :
    Calls Try.prog 26 #[.slice a ss.length cap, .slice a1 zs.length cap1, .int .i64 n] w fun e w' => RetIf (SafeUpto ss zs n) e ∧ w' = w := by
  go_enter Try.func26, Try.ntmps26
  go_wp2
  go_loop [7] (fun i => ∃ k : Nat, k ≤ n ∧ i = .int .i64 k ∧ SafeUpto ss zs k) (fun i => n - (intOf i).toNat)
  case atStart => exact ⟨0, Nat.zero_le _, rfl, SafeUpto.zero _ _⟩
  case round =>
    obtain ⟨k, hk, rfl, hsafe⟩ := hrel
    by_cases hlt : k < n
    · obtain ⟨s, hs⟩ : ∃ s, ss[k]? = some s := ⟨_, List.getElem?_eq_getElem (by omega)⟩
      obtain ⟨z, hz⟩ : ∃ z, zs[k]? = some z := ⟨_, List.getElem?_eq_getElem (by omega)⟩
      obtain ⟨b, off, rfl, hc, hsz⟩ := hS k s hs
      obtain ⟨b1, off1, rfl, hc1⟩ := hN k z hz
      have HS := hide (hsafe.succ hs hz)
      have H0 := hide hsafe
      have hk1 : k < ss.length := by omega
      have hk2 : k < zs.length := by omega
      clear hs hz hsafe
      cases h1 : hasB s 92 with
      | true =>
        go_wp2_with (go_at_call 15; refine (hasByte_any _ _ _ hsz).mono ?_; rintro e w' ⟨rfl, rfl⟩)
        go_ret
        exact ⟨RetIf.no, rfl⟩
      | false =>
        cases h2 : hasB s 38 with
        | true =>
          go_wp2_with (go_at_call 15; refine (hasByte_any _ _ _ hsz).mono ?_; rintro e w' ⟨rfl, rfl⟩)
          go_ret
          exact ⟨RetIf.no, rfl⟩
        | false =>
          cases h3 : (z == 92) with
          | true =>
            go_wp2_with (go_at_call 15; refine (hasByte_any _ _ _ hsz).mono ?_; rintro e w' ⟨rfl, rfl⟩)
            go_ret
            exact ⟨RetIf.no, rfl⟩
          | false =>
            cases h4 : (z == 38) with
            | true =>
              go_wp2_with (go_at_call 15; refine (hasByte_any _ _ _ hsz).mono ?_; rintro e w' ⟨rfl, rfl⟩)
              go_ret
              exact ⟨RetIf.no, rfl⟩
            | false =>
              go_wp2_with (go_at_call 15; refine (hasByte_any _ _ _ hsz).mono ?_; rintro e w' ⟨rfl, rfl⟩)
              go_round
              case rel => exact ⟨k + 1, by omega, by go_num, HS.out h1 h2 h3 h4⟩
              case measure => simp [intOf]; omega
    · go_wp2
      go_ret
      have : k = n := by omega
      subst this
      exact ⟨RetIf.yes hsafe, rfl⟩

def NoBarUpto (ss : List ByteArray) (zs : List Int) (n : Nat) : Prop :=
  ∀ k f c, k < n → ss[k]? = some f → zs[k]? = some c → hasB f 124 = false ∧ (c == 124) = false
theorem NoBarUpto.zero (ss : List ByteArray) (zs : List Int) : NoBarUpto ss zs 0 := fun k _ _ h => absurd h (Nat.not_lt_zero k)
theorem NoBarUpto.succ {ss : List ByteArray} {zs : List Int} {n : Nat} {f : ByteArray} {c : Int} (h : NoBarUpto ss zs n) (hf : ss[n]? = some f) (hc : zs[n]? = some c)
    (h1 : hasB f 124 = false) (h3 : (c == 124) = false) : NoBarUpto ss zs (n + 1) := by
  intro k f' c' hk hf' hc'
  by_cases e : k = n
  · subst e
    rw [hf] at hf'; rw [hc] at hc'
    obtain rfl := Option.some.inj hf'
    obtain rfl := Option.some.inj hc'
    exact ⟨h1, h3⟩
  · exact h k f' c' (by omega) hf' hc'

set_option maxHeartbeats 800000 in
theorem noBar_any (a a1 : Option Addr) (ss : List ByteArray) (zs : List Int) (cap cap1 : Nat) (n : Nat) (w : World) (hl : ss.length ≤ 65536) (hn : n ≤ ss.length) (hn1 : n ≤ zs.length) (hS : Strs w a ss) (hN : Nums .u8 w a1 zs) :
    Calls Try.prog 27 #[.slice a ss.length cap, .slice a1 zs.length cap1, .int .i64 n] w fun e w' => RetIf (NoBarUpto ss zs n) e ∧ w' = w := by
  go_enter Try.func27, Try.ntmps27
  go_wp2
  go_loop [7] (fun i => ∃ k : Nat, k ≤ n ∧ i = .int .i64 k ∧ NoBarUpto ss zs k) (fun i => n - (intOf i).toNat)
  case atStart => exact ⟨0, Nat.zero_le _, rfl, NoBarUpto.zero _ _⟩
  case round =>
    obtain ⟨k, hk, rfl, hsafe⟩ := hrel
    by_cases hlt : k < n
    · obtain ⟨s, hs⟩ : ∃ s, ss[k]? = some s := ⟨_, List.getElem?_eq_getElem (by omega)⟩
      obtain ⟨z, hz⟩ : ∃ z, zs[k]? = some z := ⟨_, List.getElem?_eq_getElem (by omega)⟩
      obtain ⟨b, off, rfl, hc, hsz⟩ := hS k s hs
      obtain ⟨b1, off1, rfl, hc1⟩ := hN k z hz
      have HS := hide (hsafe.succ hs hz)
      have hk1 : k < ss.length := by omega
      have hk2 : k < zs.length := by omega
      clear hs hz hsafe
      cases h1 : hasB s 124 with
      | true =>
        go_wp2_with (go_at_call 15; refine (hasByte_any _ _ _ hsz).mono ?_; rintro e w' ⟨rfl, rfl⟩)
        go_ret
        exact ⟨RetIf.no, rfl⟩
      | false =>
        cases h3 : (z == 124) with
        | true =>
          go_wp2_with (go_at_call 15; refine (hasByte_any _ _ _ hsz).mono ?_; rintro e w' ⟨rfl, rfl⟩)
          go_ret
          exact ⟨RetIf.no, rfl⟩
        | false =>
          go_wp2_with (go_at_call 15; refine (hasByte_any _ _ _ hsz).mono ?_; rintro e w' ⟨rfl, rfl⟩)
          go_round
          case rel => exact ⟨k + 1, by omega, by go_num, HS.out h1 h3⟩
          case measure => simp [intOf]; omega
    · go_wp2
      go_ret
      have : k = n := by omega
      subst this
      exact ⟨RetIf.yes hsafe, rfl⟩

/-- A Bool came back, whichever. -/
def RetBool (e : Ending) : Prop := ∃ b : Bool, e = .returned (.bool b)
theorem RetBool.mk (b : Bool) : RetBool (.returned (.bool b)) := ⟨b, rfl⟩

set_option maxHeartbeats 1000000 in
theorem zzBytes8_any (a a1 a2 : Option Addr) (ss vs : List ByteArray) (len1 cap cap1 cap2 : Nat) (w : World) (hl : ss.length ≤ maxLen) (hl2 : vs.length ≤ maxLen) (hS : Strs w a ss) (hV : Strs w a2 vs) :
    Calls Try.prog 25 #[.slice a ss.length cap, .slice a1 len1 cap1, .slice a2 vs.length cap2] w fun e w' => RetBool e ∧ w' = w := by
  unfold maxLen at *
  go_enter Try.func25, Try.ntmps25
  go_wp2
  · go_ret
    exact ⟨RetBool.mk _, rfl⟩
  go_loop [7, 8] (fun n i => ∃ (k : Nat) (m : Int), k ≤ ss.length ∧ i = .int .i64 k ∧ n = .int .i64 m) (fun _ i => ss.length - (intOf i).toNat)
  case atStart => exact ⟨0, _, Nat.zero_le _, rfl, rfl⟩
  case round =>
    obtain ⟨k, m, hk, rfl, rfl⟩ := hrel
    by_cases hlt : k < ss.length
    · obtain ⟨s, hs⟩ : ∃ s, ss[k]? = some s := ⟨_, List.getElem?_eq_getElem hlt⟩
      obtain ⟨b, off, rfl, hc, hsz⟩ := hS k s hs
      clear hs
      go_wp2
      · go_ret
        exact ⟨RetBool.mk _, rfl⟩
      · go_ret
        exact ⟨RetBool.mk _, rfl⟩
      · go_round
        case rel => exact ⟨k + 1, _, by omega, by go_num, rfl⟩
        case measure => simp [intOf]; omega
    · go_wp2
      iterate 4
        go_ret
        exact ⟨RetBool.mk _, rfl⟩
      go_loop [7, 9] (fun n i => ∃ (k : Nat) (m : Int), k ≤ vs.length ∧ i = .int .i64 k ∧ n = .int .i64 m) (fun _ i => vs.length - (intOf i).toNat)
      case atStart => exact ⟨0, _, Nat.zero_le _, rfl, rfl⟩
      case round =>
        obtain ⟨k2, m2, hk2, rfl, rfl⟩ := hrel
        by_cases hlt2 : k2 < vs.length
        · obtain ⟨s, hs⟩ : ∃ s, vs[k2]? = some s := ⟨_, List.getElem?_eq_getElem hlt2⟩
          obtain ⟨b, off, rfl, hc, hsz⟩ := hV k2 s hs
          clear hs
          go_wp2
          · go_ret
            exact ⟨RetBool.mk _, rfl⟩
          · go_ret
            exact ⟨RetBool.mk _, rfl⟩
          · go_round
            case rel => exact ⟨k2 + 1, _, by omega, by go_num, rfl⟩
            case measure => simp [intOf]; omega
        · go_wp2
          all_goals
            go_ret
            exact ⟨RetBool.mk _, rfl⟩

end Go.Proofs.Qxb6600096a
