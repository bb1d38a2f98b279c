import Derived.Test.Qxb6600096aSmall
import Derived.Deep.OwnRows
import Derived.BigRegion
namespace Go.Proofs.Qxb6600096a
open Go.RowKit

theorem Try.info29 : (Try.prog.info? 29).map (fun i => (i.zero, i.size, i.bytes)) = some (some (.agg #[.string ByteArray.empty, .int .u8 0, .string ByteArray.empty]), 3, 40) := by kernel_rfl

/-- Alternatives lie there: three cells each. -/
def AltsAt (w : World) (a : Option Addr) (l : List Alt) : Prop :=
  ∀ k x, l[k]? = some x → ∃ b off, a = some ⟨b, off, none⟩ ∧ w.cell? ⟨b, off + k * 3, none⟩ = some (.string x.f) ∧ w.cell? ⟨b, off + k * 3 + 1, none⟩ = some (.int .u8 x.c) ∧
    w.cell? ⟨b, off + k * 3 + 2, none⟩ = some (.string x.v) ∧ x.f.size ≤ maxLen ∧ x.v.size ≤ maxLen

theorem make_alts (n : Nat) (hn : n ≤ 65536) (w : World) :
    (Instr.makeSlice 30 (.int .i64 (n : Int)) (.int .i64 (n : Int))).run Try.prog w = .ok (.slice (some ⟨w.heap.size, 0, none⟩) n n) (w.alloc (.cells (madeCells #[.string ByteArray.empty, .int .u8 0, .string ByteArray.empty] (n * 3)) 29)) := by
  obtain ⟨i, hi, hz0, hz1, hz2⟩ := info_parts Try.info29
  have hr := run_make (P := Try.prog) w 30 29 i _ Try.underlying30 hi hz0 .i64 .i64 n n (by omega) (Int.le_refl _) (by rw [hz2]; omega) (by omega)
  simp only [Int.toNat_natCast, hz1] at hr
  exact hr

/-- The list of alternatives that the three lists make, place by place. -/
def Zips (l : List Alt) (ss : List ByteArray) (zs : List Int) (vs : List ByteArray) : Prop :=
  ∀ (k : Nat) (x : Alt), l[k]? = some x → ss[k]? = some x.f ∧ zs[k]? = some x.c ∧ vs[k]? = some x.v

/-- The first k alternatives have been laid into the new row. -/
def Filled (B : Nat) (l : List Alt) (k : Nat) (w wr : World) : Prop :=
  Below B w wr ∧ ∃ F, wr.rowIs B 29 (l.length * 3) F ∧ ∀ (i : Nat) (x : Alt), i < k → l[i]? = some x → F (i * 3) = .string x.f ∧ F (i * 3 + 1) = .int .u8 x.c ∧ F (i * 3 + 2) = .string x.v

theorem Filled.start (w : World) (l : List Alt) : Filled w.heap.size l 0 w (w.alloc (.cells (madeCells #[.string ByteArray.empty, .int .u8 0, .string ByteArray.empty] (l.length * 3)) 29)) := by
  refine ⟨(Below.refl _ _).alloc (Nat.le_refl _) _, fun i => #[Value.string ByteArray.empty, .int .u8 0, .string ByteArray.empty][i % 3]?.getD default, ?_, fun i x hi => absurd hi (Nat.not_lt_zero i)⟩
  have h := World.rowIs_alloc w (madeCells #[.string ByteArray.empty, .int .u8 0, .string ByteArray.empty] (l.length * 3)) 29
    (fun i => #[Value.string ByteArray.empty, .int .u8 0, .string ByteArray.empty][i % 3]?.getD default) (by
      intro i hi
      rw [size_madeCells] at hi
      simp [madeCells, hi])
  rwa [size_madeCells] at h

theorem Filled.step {B : Nat} {l : List Alt} {k : Nat} {w wr : World} (h : Filled B l k w wr) {x : Alt} (hx : l[k]? = some x) :
    Filled B l (k + 1) w (((wr.setCell { block := B, off := k * 3 } (Value.string x.f)).setCell { block := B, off := k * 3 + 1 } (Value.int IntKind.u8 x.c)).setCell { block := B, off := k * 3 + 2 } (Value.string x.v)).drew := by
  obtain ⟨hb, F, hr, hF⟩ := h
  refine ⟨(((hb.setCell (Nat.le_refl _) _).setCell (Nat.le_refl _) _).setCell (Nat.le_refl _) _).drew, _, (((hr.set (k * 3) _).set (k * 3 + 1) _).set (k * 3 + 2) _).drew, ?_⟩
  intro i y hi hy
  by_cases e : i = k
  · subst e
    rw [hx] at hy
    obtain rfl := Option.some.inj hy
    refine ⟨?_, ?_, ?_⟩
    · rw [if_neg (by omega), if_neg (by omega), if_pos rfl]
    · rw [if_neg (by omega), if_pos rfl]
    · rw [if_pos rfl]
  · obtain ⟨h0, h1, h2⟩ := hF i y (by omega) hy
    refine ⟨?_, ?_, ?_⟩
    · rw [if_neg (by omega), if_neg (by omega), if_neg (by omega)]; exact h0
    · rw [if_neg (by omega), if_neg (by omega), if_neg (by omega)]; exact h1
    · rw [if_neg (by omega), if_neg (by omega), if_neg (by omega)]; exact h2

theorem Filled.done {B : Nat} {l : List Alt} {w wr : World} (h : Filled B l l.length w wr) (hs : ∀ x ∈ l, x.f.size ≤ maxLen ∧ x.v.size ≤ maxLen) : AltsAt wr (some ⟨B, 0, none⟩) l := by
  obtain ⟨hb, F, hr, hF⟩ := h
  intro k x hx
  have hk : k < l.length := (List.getElem?_eq_some_iff.1 hx).1
  obtain ⟨h0, h1, h2⟩ := hF k x hk hx
  obtain ⟨hf, hv⟩ := hs x (List.mem_of_getElem? hx)
  refine ⟨B, 0, rfl, ?_, ?_, ?_, hf, hv⟩
  · rw [Nat.zero_add, hr.cell (by omega), h0]
  · rw [Nat.zero_add, hr.cell (by omega), h1]
  · rw [Nat.zero_add, hr.cell (by omega), h2]

set_option maxHeartbeats 800000 in
theorem alts_any (a a1 a2 : Option Addr) (ss vs : List ByteArray) (zs : List Int) (cap cap1 cap2 : Nat) (l : List Alt) (w : World) (hl : l.length ≤ 65536) (hn : l.length ≤ ss.length) (hn1 : l.length ≤ zs.length) (hn2 : l.length ≤ vs.length)
    (hZ : Zips l ss zs vs) (hS : Strs w a ss) (hN : Nums .u8 w a1 zs) (hV : Strs w a2 vs) (hl0 : ss.length ≤ 65536) :
    Calls Try.prog 22 #[.slice a ss.length cap, .slice a1 zs.length cap1, .slice a2 vs.length cap2, .int .i64 0, .int .i64 l.length] w fun e w' => e = .returned (.slice (some ⟨w.heap.size, 0, none⟩) l.length l.length) ∧ Filled w.heap.size l l.length w w' := by
  have hmk := make_alts l.length hl
  go_enter Try.func22, Try.ntmps22
  go_wp2
  go_loopw [12] (fun i wr => ∃ k : Nat, k ≤ l.length ∧ i = .int .i64 k ∧ Filled w.heap.size l k w wr) (fun i _ => l.length - (intOf i).toNat)
  case atStart => exact ⟨0, Nat.zero_le _, rfl, Filled.start w l⟩
  case round =>
    obtain ⟨k, hk, rfl, hfil⟩ := hrel
    by_cases hlt : k < l.length
    · obtain ⟨x, hx⟩ : ∃ x, l[k]? = some x := ⟨_, List.getElem?_eq_getElem hlt⟩
      obtain ⟨hs, hz, hv⟩ := hZ k x hx
      obtain ⟨b, off, rfl, hc, hsz⟩ := hS k _ hs
      obtain ⟨b1, off1, rfl, hc1⟩ := hN k _ hz
      obtain ⟨b2, off2, rfl, hc2, hvz⟩ := hV k _ hv
      have HF := hide (hfil.step hx)
      obtain ⟨hbel, F, hrow, _⟩ := hfil
      have hk1 : (k : Int) < ss.length := by omega
      have hk2 : (k : Int) < zs.length := by omega
      have hk3 : (k : Int) < vs.length := by omega
      have hk4 : (k : Int) < l.length := by omega
      have hc' : wr.cell? ⟨b, off + k, none⟩ = some (.string x.f) := (hbel.cell (World.block_lt_of_cell? _ _ hc)).trans hc
      have hc1' : wr.cell? ⟨b1, off1 + k, none⟩ = some (.int .u8 x.c) := (hbel.cell (World.block_lt_of_cell? _ _ hc1)).trans hc1
      have hc2' : wr.cell? ⟨b2, off2 + k, none⟩ = some (.string x.v) := (hbel.cell (World.block_lt_of_cell? _ _ hc2)).trans hc2
      have r0 := hrow.cell (i := k * 3) (by omega)
      have r1 := hrow.cell (i := k * 3 + 1) (by omega)
      have r2 := hrow.cell (i := k * 3 + 2) (by omega)
      have f0 := hrow.frozen (k * 3)
      have f1 := hrow.frozen (k * 3 + 1)
      have f2 := hrow.frozen (k * 3 + 2)
      clear hc hc1 hc2 hs hz hv hx
      go_wp2
      go_region
      all_goals go_wp2
      go_roundw
      case rel => exact ⟨k + 1, by omega, by go_num, HF.out⟩
      case measure => simp [intOf]; omega
    · have e : k = l.length := by omega
      subst e
      go_wp2
      go_ret
      exact ⟨rfl, hfil⟩
end Go.Proofs.Qxb6600096a
