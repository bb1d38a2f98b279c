/-
  bytes.IndexByte, stringEnd: the walks.
-/
import Derived.Test.Qxb6601636aProg
import Derived.Test.Qxb6601636aPlain
import Derived.WalkKit
import Derived.WalkSpells
import Derived.WalkLawsBesides
import Derived.Lib.BytesEntry
import Derived.Lib.IndexLaws
namespace Go.Proofs.Qxb6601636a
open Go.RowKit

theorem hide {p : Prop} (h : p) : Hid p := h
theorem ret_int {k : IntKind} {a b : Int} (h : a = b) : Ending.returned (.int k a) = .returned (.int k b) := by rw [h]

def BytesL (T : List Int) : Prop := ∀ z ∈ T, 0 ≤ z ∧ z ≤ 255

theorem byte_inj {a b : Int} (ha : 0 ≤ a ∧ a ≤ 255) (hb : 0 ≤ b ∧ b ≤ 255) (h : a.toNat.toUInt8 = b.toNat.toUInt8) : a = b := by
  have h2 := congrArg UInt8.toNat h
  rw [UInt8.toNat_ofNat', UInt8.toNat_ofNat'] at h2
  omega

theorem bytesOf_get (xs : List Int) (j : Nat) : (Lib.bytesOf xs)[j]? = (xs[j]?).map fun z => z.toNat.toUInt8 := by
  simp [Lib.bytesOf]

theorem bytesOf_iff {xs : List Int} {c : Int} (hx : BytesL xs) (hc : 0 ≤ c ∧ c ≤ 255) (j : Nat) : (Lib.bytesOf xs)[j]? = some c.toNat.toUInt8 ↔ xs[j]? = some c := by
  rw [bytesOf_get]
  constructor
  · intro h
    obtain ⟨z, hz, e⟩ := Option.map_eq_some_iff.1 h
    rw [hz, byte_inj (hx z (List.mem_of_getElem? hz)) hc e]
  · intro h
    rw [h]; rfl

theorem index_at {xs : List Int} {c : Int} {k : Nat} (hx : BytesL xs) (hc : 0 ≤ c ∧ c ≤ 255) (h : At xs c k) : Lib.indexByte (Lib.bytesOf xs) c.toNat.toUInt8 = (k : Int) := by
  obtain ⟨h1, h2⟩ := h
  have hge := Lib.indexByte_ge (Lib.bytesOf xs) c.toNat.toUInt8
  by_cases hm : Lib.indexByte (Lib.bytesOf xs) c.toNat.toUInt8 = -1
  · exact absurd ((bytesOf_iff hx hc k).2 h1) (Lib.indexByte_none hm k)
  · obtain ⟨o, ho⟩ : ∃ o : Nat, Lib.indexByte (Lib.bytesOf xs) c.toNat.toUInt8 = (o : Int) := ⟨(Lib.indexByte (Lib.bytesOf xs) c.toNat.toUInt8).toNat, by omega⟩
    obtain ⟨g1, g2⟩ := Lib.indexByte_some ho
    have g1' := (bytesOf_iff hx hc o).1 g1
    have : o = k := by
      rcases Nat.lt_trichotomy o k with h' | h' | h'
      · exact absurd g1' (h2 o h')
      · exact h'
      · exact absurd ((bytesOf_iff hx hc k).2 h1) (g2 k h')
    rw [ho, this]
theorem index_lacks {xs : List Int} {c : Int} (hx : BytesL xs) (hc : 0 ≤ c ∧ c ≤ 255) (h : Lacks xs c) : Lib.indexByte (Lib.bytesOf xs) c.toNat.toUInt8 = -1 := by
  have hge := Lib.indexByte_ge (Lib.bytesOf xs) c.toNat.toUInt8
  by_cases hm : Lib.indexByte (Lib.bytesOf xs) c.toNat.toUInt8 = -1
  · exact hm
  · obtain ⟨o, ho⟩ : ∃ o : Nat, Lib.indexByte (Lib.bytesOf xs) c.toNat.toUInt8 = (o : Int) := ⟨(Lib.indexByte (Lib.bytesOf xs) c.toNat.toUInt8).toNat, by omega⟩
    exact absurd ((bytesOf_iff hx hc o).1 (Lib.indexByte_some ho).1) (h o)

set_option maxHeartbeats 400000 in
theorem indexByte_any (b off n cap : Nat) (xs : List Int) (c : Int) (w : World) (hn : xs.length = n) (hc : ∀ i z, xs[i]? = some z → w.cell? ⟨b, off + i, none⟩ = some (.int .u8 z)) :
    Calls Try.prog 30 #[.slice (some ⟨b, off, none⟩) n cap, .int .u8 c] w fun e w' => e = .returned (.int .i64 (Lib.indexByte (Lib.bytesOf xs) c.toNat.toUInt8)) ∧ w' = w := by
  have hrun := fun (w' : World) (hc' : ∀ i, i < n → w'.cell? ⟨b, off + i, none⟩ = some (.int .u8 (xs.getD i 0))) => Lib.run_indexByteSlice (P := Try.prog) w' b off n cap xs hn hc' c
  have hcell : ∀ i, i < n → w.cell? ⟨b, off + i, none⟩ = some (.int .u8 (xs.getD i 0)) := by
    intro i hi
    rw [hc i _ (List.getElem?_eq_getElem (by omega)), List.getD_eq_getElem?_getD, List.getElem?_eq_getElem (by omega)]
    rfl
  have hr := hrun w hcell
  clear hrun hcell hc
  go_enter Try.func30, Try.ntmps30
  go_wp2
  rw [run_callFunc_extern Try.func32 (by kernel_rfl) (by kernel_rfl) (by kernel_rfl) (e := Extern.BytealgIndexByte.indexByte) (by kernel_rfl), hr]
  simp only [Result.andThen]
  rw [Oper.upon_value]
  go_wp2
  go_ret
  exact ⟨rfl, rfl⟩

/-- The text's cells. -/
def TextAt (w : World) (b off : Nat) (T : List Int) : Prop := ∀ (i : Nat) (z : Int), T[i]? = some z → w.cell? ⟨b, off + i, none⟩ = some (.int .u8 z)
theorem TextAt.sub {w : World} {b off : Nat} {T : List Int} (h : TextAt w b off T) (p n : Nat) : ∀ (i : Nat) (z : Int), ((T.drop p).take n)[i]? = some z → w.cell? ⟨b, off + p + i, none⟩ = some (.int .u8 z) := by
  intro i z hz
  rw [List.getElem?_take] at hz
  split at hz
  · rw [List.getElem?_drop] at hz
    rw [Nat.add_assoc]
    exact h _ z hz
  · cases hz
theorem TextAt.from {w : World} {b off : Nat} {T : List Int} (h : TextAt w b off T) (p : Nat) : ∀ (i : Nat) (z : Int), (T.drop p)[i]? = some z → w.cell? ⟨b, off + p + i, none⟩ = some (.int .u8 z) := by
  intro i z hz
  rw [List.getElem?_drop] at hz
  rw [Nat.add_assoc]
  exact h _ z hz

/-- stringEnd: from the quote at s, whose text is R quoted, to just behind the closing quote. -/
def StR (T R0 tail : List Int) (s p : Nat) (R : List Int) : Prop := T.drop p = qs R ++ 34 :: tail ∧ p + (qs R).length = s + 1 + (qs R0).length

set_option maxHeartbeats 800000 in
theorem stringEnd_any (b off cap s : Nat) (T R0 tail : List Int) (w : World) (hby : BytesL T) (hT : TextAt w b off T) (hcap : T.length ≤ cap) (hlen : T.length ≤ 1073741824) (hs : T.drop (s + 1) = qs R0 ++ 34 :: tail) :
    Calls Try.prog 26 #[.slice (some ⟨b, off, none⟩) T.length cap, .int .i64 s] w fun e w' => e = .returned (.int .i64 ((s + 1 + (qs R0).length + 1 : Nat) : Int)) ∧ w' = w := by
  have hsl : s + 1 < T.length := by
    have h := congrArg List.length hs
    rw [List.length_drop, List.length_append, List.length_cons] at h
    omega
  go_enter Try.func26, Try.ntmps26
  go_wp2
  go_loop [5] (fun i => ∃ (p : Nat) (R : List Int), i = .int .i64 p ∧ StR T R0 tail s p R ∧ p < T.length) (fun i => T.length - (intOf i).toNat)
  case atStart => exact ⟨s + 1, R0, by go_num, ⟨hs, rfl⟩, hsl⟩
  case round =>
    obtain ⟨p, R, rfl, ⟨hd, hpe⟩, hpl⟩ := hrel
    obtain ⟨q, hq, hcase⟩ := round R tail
    rw [← hd] at hq hcase
    have hql : q < T.length - p := by
      have := (List.getElem?_eq_some_iff.1 hq.1).1
      rwa [List.length_drop] at this
    have hdl : (T.drop p).length = T.length - p := List.length_drop ..
    have hdb : BytesL (T.drop p) := fun z hz => hby z (List.mem_of_mem_drop hz)
    have htb : BytesL ((T.drop p).take q) := fun z hz => hdb z (List.mem_of_mem_take hz)
    have htl : ((T.drop p).take q).length = q := by rw [List.length_take]; omega
    have H1 : Hid (Calls Try.prog 30 #[.slice (some ⟨b, off + p, none⟩) (T.length - p) (cap - p), .int .u8 34] w fun e w' => e = .returned (.int .i64 (q : Int)) ∧ w' = w) := by
      have h := indexByte_any b (off + p) (T.length - p) (cap - p) (T.drop p) 34 w hdl (hT.from p)
      rw [index_at hdb (by omega) hq] at h
      exact h
    have H2 := hide (indexByte_any b (off + p) q (cap - p) ((T.drop p).take q) 92 w htl (hT.sub p q))
    have hcp : ¬ cap = p := by omega
    have i0 : (0 : Int) ≤ (p : Int) := by omega
    have i1 : (p : Int) ≤ (T.length : Int) := by omega
    clear hq hd hT hs hdl htl
    rcases hcase with ⟨hqe, hl⟩ | ⟨k, R', hk, hk2, hdd, hke⟩
    · have H3 : Hid (Calls Try.prog 30 #[.slice (some ⟨b, off + p, none⟩) q (cap - p), .int .u8 92] w fun e w' => e = .returned (.int .i64 (-1)) ∧ w' = w) := by
        have h := H2.out
        rw [index_lacks htb (by omega) hl] at h
        exact h
      have HQE := hide hqe
      clear hl hqe H2 hdb htb
      go_wp2_with fail
      refine H1.out.mono ?_
      rintro e w' ⟨rfl, hw⟩
      obtain rfl := hw.symm
      clear hw
      go_wp2_with fail
      refine H3.out.mono ?_
      rintro e w' ⟨rfl, hw⟩
      obtain rfl := hw.symm
      clear hw
      go_wp2
      go_ret
      exact ⟨ret_int (by have := HQE.out; omega), rfl⟩
    · have H3 : Hid (Calls Try.prog 30 #[.slice (some ⟨b, off + p, none⟩) q (cap - p), .int .u8 92] w fun e w' => e = .returned (.int .i64 (k : Int)) ∧ w' = w) := by
        have h := H2.out
        rw [index_at htb (by omega) hk] at h
        exact h
      have HDD := hide hdd
      clear hk hdd H2 hdb htb
      go_wp2_with fail
      refine H1.out.mono ?_
      rintro e w' ⟨rfl, hw⟩
      obtain rfl := hw.symm
      clear hw
      go_wp2_with fail
      refine H3.out.mono ?_
      rintro e w' ⟨rfl, hw⟩
      obtain rfl := hw.symm
      clear hw
      have HST : Hid (StR T R0 tail s (p + (k + 2)) R') := ⟨by rw [← List.drop_drop]; exact HDD.out, by omega⟩
      have hnl : p + (k + 2) < T.length := by
        have h := congrArg List.length HDD.out
        rw [List.length_drop, List.length_drop, List.length_append, List.length_cons] at h
        omega
      go_wp2
      go_round
      case rel => exact ⟨p + (k + 2), R', by go_num, HST.out, hnl⟩
      case measure => simp [intOf]; omega
end Go.Proofs.Qxb6601636a
