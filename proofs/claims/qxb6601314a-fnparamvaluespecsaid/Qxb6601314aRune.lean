/-
  strings.IndexRune over " \t," at a rune beyond ASCII: it is not found.
-/
import Derived.Test.Qxb6601314aKit
import Derived.Test.Qxb6601314aShelf2
import Derived.Laws.RangeAny
import Derived.Lib.OthersKept
import Derived.Lib.IndexLaws
import Derived.WalkMore
namespace Go.Proofs.Qxb6601314a
open Go.RowKit

abbrev CH : ByteArray := ⟨#[32, 9, 44]⟩

def RetB (e : Ending) : Prop := ∃ b : Bool, e = .returned (.bool b)
set_option maxHeartbeats 400000 in
theorem valid_any (r : Int) (w : World) : Calls Try.prog 23 #[.int .i32 r] w fun e w' => RetB e ∧ w' = w := by
  go_enter Try.func23, Try.ntmps23
  go_wp2
  all_goals
    go_ret
    exact ⟨⟨_, rfl⟩, rfl⟩

theorem ch_low (i : Nat) (hi : i < CH.size) : (CH[i]'hi).toNat < 128 := by
  have : i < 3 := hi
  match i with
  | 0 => exact (by decide : (32 : UInt8).toNat < 128)
  | 1 => exact (by decide : (9 : UInt8).toNat < 128)
  | 2 => exact (by decide : (44 : UInt8).toNat < 128)

set_option maxRecDepth 100000 in
set_option maxHeartbeats 1000000 in
theorem rune_error (r : Int) (w : World) (h0 : 128 ≤ r) (h : (r == 65533) = true) :
    Calls Try.prog 17 #[.string CH, .int .i32 r] w fun e w' => e = .returned (.int .i64 (-1)) ∧ Below w.heap.size w w' := by
  obtain ⟨C, hC⟩ : ∃ C, Hid (CH = C) := ⟨_, hide rfl⟩
  have hlow : ∀ (i : Nat) (hi : i < C.size), (C[i]'hi).toNat < 128 := by
    intro i hi
    obtain rfl := hC.out
    exact ch_low i hi
  rw [hC.out]
  clear hC
  have HL := hide hlow
  clear hlow
  go_enter Try.func17, Try.ntmps17
  go_wp2
  go_loopw [5, 6] (fun _ _ wr => ∃ i : Nat, i ≤ C.size ∧ wr = w.iter C i) (fun _ _ wr => C.size - wr.iterPos w.heap.size)
  case atStart => exact ⟨0, Nat.zero_le _, rfl⟩
  case round =>
    obtain ⟨i, hi, rfl⟩ := hrel
    by_cases hlt : i < C.size
    · have hx := HL.out i hlt
      have hnx := fun ty => run_next_ascii (P := Try.prog) w C i ty hlt hx
      obtain ⟨x, hxe⟩ : ∃ x : Nat, (C[i]'hlt).toNat = x := ⟨_, rfl⟩
      rw [hxe] at hnx hx
      clear hxe
      have hne : ((x : Int) == 65533) = false := beq_eq_false_iff_ne.2 (by omega)
      go_wp2
      go_roundw
      case rel => exact ⟨i + 1, by omega, rfl⟩
      case measure => simp; omega
    · have hnx := fun ty => run_next_end (P := Try.prog) w C i ty hlt
      go_wp2
      go_ret
      exact ⟨rfl, (Below.refl _ _).alloc (Nat.le_refl _) _⟩

theorem tail_high (m : Nat) : 128 ≤ (UInt8.ofNat (128 + m % 64)).toNat := by
  rw [UInt8.toNat_ofNat']
  have : m % 64 < 64 := Nat.mod_lt _ (by omega)
  omega
/-- The encoding of a rune beyond ASCII: two to four bytes, the last at least 128. -/
def High (e : ByteArray) : Prop := ∃ n, 1 ≤ n ∧ n ≤ 3 ∧ e.size = n + 1 ∧ ∃ h : n < e.size, 128 ≤ (e[n]'h).toNat
set_option maxRecDepth 100000 in
theorem enc_high (r : Int) (h : 128 ≤ r) : High (Utf8.encode r) := by
  unfold Utf8.encode
  have hc : 128 ≤ (if Utf8.valid r = true then r.toNat else Utf8.runeError) := by
    split
    · omega
    · decide
  revert hc
  generalize (if Utf8.valid r = true then r.toNat else Utf8.runeError) = c
  intro hc
  simp only []
  split
  · omega
  · split
    · exact ⟨1, by omega, by omega, rfl, Nat.lt_succ_self 1, tail_high c⟩
    · split
      · exact ⟨2, by omega, by omega, rfl, Nat.lt_succ_self 2, tail_high c⟩
      · exact ⟨3, by omega, by omega, rfl, Nat.lt_succ_self 3, tail_high c⟩

theorem idx_miss (n : Nat) (x : UInt8) (h1 : 1 ≤ n) (h3 : n < 3) (hx : 128 ≤ x.toNat) (w : World) :
    Calls Try.prog 22 #[.string (CH.extract (n + 1) 3), .int .u8 (x.toNat : Int)] w fun e w' => e = .returned (.int .i64 (-1)) ∧ w' = w := by
  have h := Try.strings_IndexByte (CH.extract (n + 1) 3) (x.toNat : Int) w
  have e : Lib.indexByte (CH.extract (n + 1) 3).data.toList ((x.toNat : Int).toNat.toUInt8) = -1 := by
    have hb : ((x.toNat : Int).toNat.toUInt8) = x := by simp
    rw [hb]
    match n, h1, h3 with
    | 1, _, _ =>
      have e : (CH.extract 2 3).data.toList = [44] := rfl
      rw [e]
      have : ¬ (44 = x) := fun e => by subst e; exact absurd hx (by decide)
      simp [Lib.indexByte, this]
    | 2, _, _ =>
      have e : (CH.extract 3 3).data.toList = [] := rfl
      rw [e]
      rfl
  rwa [e] at h

set_option maxRecDepth 100000 in
set_option maxHeartbeats 1000000 in
theorem rune_plain (r : Int) (w : World) (h0 : 128 ≤ r) (h1 : r ≤ 2147483647) (h : (r == 65533) = false) :
    Calls Try.prog 17 #[.string CH, .int .i32 r] w fun e w' => e = .returned (.int .i64 (-1)) ∧ Below w.heap.size w w' := by
  obtain ⟨C, hC⟩ : ∃ C, Hid (CH = C) := ⟨_, hide rfl⟩
  have hsz : C.size = 3 := by obtain rfl := hC.out; rfl
  rw [hC.out]
  have HV := hide (valid_any r w)
  go_enter Try.func17, Try.ntmps17
  go_wp2_with fail
  refine HV.out.mono ?_
  rintro e w' ⟨⟨b, rfl⟩, hw⟩
  obtain rfl := hw.symm
  clear hw
  cases b
  · go_wp2
    go_ret
    exact ⟨rfl, Below.refl _ _⟩
  · obtain ⟨E, hE⟩ : ∃ E, Hid (Utf8.encode r = E) := ⟨_, hide rfl⟩
    have hH := enc_high r h0
    rw [hE.out] at hH
    obtain ⟨n, hn1, hn3, hEs, hnE, hE128⟩ := hH
    have hEq := hE.out
    have hCn : ∀ h : n < C.size, (C[n]'h).toNat < 128 := by
      intro h
      obtain rfl := hC.out
      exact ch_low n h
    have HCn := hide hCn
    have HC := hide hC.out
    clear hE hC hCn
    go_wp2
    go_step3
    go_wp2
    go_loop [9, 10, 11, 12] (fun i _ _ _ => i = .int .i64 n) (fun _ _ _ _ => 0)
    case atStart => rfl
    case round =>
      obtain rfl := hrel
      by_cases hlt : n < C.size
      · have hc := HCn.out hlt
        have hne : (((C[n]'hlt).toNat : Int) == ((E[n]'hnE).toNat : Int)) = false := beq_eq_false_iff_ne.2 (by omega)
        have hi1 : (n : Int) < (n : Int) + 1 := by omega
        have hi2 : (n : Int) + 1 ≤ 3 := by omega
        have hi3 : IntKind.i64.wrap ((n : Int) + 1) = (n : Int) + 1 := IntWalk.i64_in _ (by omega)
        have hi4 : (0 : Int) ≤ (n : Int) + 1 := by omega
        have hi5 : ((n : Int) + 1).toNat = n + 1 := by omega
        have hmiss : ∀ W, Calls Try.prog 22 #[.string (C.extract (n + 1) 3), .int .u8 ((E[n]'hnE).toNat : Int)] W fun e w' => e = .returned (.int .i64 (-1)) ∧ w' = W := by
          intro W
          rw [← HC.out]
          exact idx_miss n _ hn1 (by omega) hE128 W
        have HM := hide hmiss
        clear hmiss
        go_wp2
        go_step3
        go_wp2
        go_region
        all_goals go_wp2
        go_region_with (go_at_call 22; refine (HM.out _).mono ?_; rintro e w' ⟨rfl, hw⟩; obtain rfl := hw.symm; clear hw)
        all_goals go_wp2
        all_goals
          rw [Exit.noGoto_ret]
          go_wp2
          try (rw [Exit.noGoto_ret]; go_wp2)
          go_ret
          exact ⟨rfl, (Below.refl _ _).drew.drew⟩
      · go_wp2
        go_ret
        exact ⟨rfl, Below.refl _ _⟩
end Go.Proofs.Qxb6601314a
