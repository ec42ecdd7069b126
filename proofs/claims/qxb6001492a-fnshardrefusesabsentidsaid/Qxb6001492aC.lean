/-
  Seat b6001492a: the contract of zzShardsOf (10): a new row of shards.
-/
import Derived.Test.Qxb6001492aB
import Derived.BigRegion
import Derived.RegionTactic
import Derived.ChangeAlike
import Derived.Deep.Cut
namespace Go.Proofs.Qxb6001492a
open Go.RowKit

def shard0 : Value := .agg #[.int .i64 0, .string ByteArray.empty, .string ByteArray.empty, .string ByteArray.empty]
/-- What 'make([]Shard, n)' lays. -/
def shCells (n : Nat) : Array Value := madeCells shard0.cells (n * 4)
theorem Try.info35 : (Try.prog.info? 35).map (fun i => (i.zero, i.size, i.bytes)) = some (some shard0, 4, 56) := by kernel_rfl

theorem run_make_shards (n : Nat) (hn : n ≤ 65536) (w : World) :
    (Instr.makeSlice 28 (.int .i64 (n : Int)) (.int .i64 (n : Int))).run Try.prog w = .ok (.slice (some ⟨w.heap.size, 0, none⟩) n n) (w.alloc (.cells (shCells n) 35)) := by
  obtain ⟨i, hi, hz⟩ := Option.map_eq_some_iff.1 Try.info35
  simp only [Prod.mk.injEq] at hz
  obtain ⟨hz, hs, hb⟩ := hz
  have hr := run_make (P := Try.prog) w 28 35 i shard0 Try.underlying28 hi hz .i64 .i64 n n (by omega) (Int.le_refl _) (by rw [hb]; omega) (by omega)
  simp only [Int.toNat_natCast, hs] at hr
  exact hr

/-- The cells of a row of shards. -/
def shV (I : Nat → Int) (A S E : Nat → ByteArray) (j : Nat) : Value :=
  if j % 4 = 0 then .int .i64 (I (j / 4)) else if j % 4 = 1 then .string (A (j / 4)) else if j % 4 = 2 then .string (S (j / 4)) else .string (E (j / 4))
theorem shV0 (I : Nat → Int) (A S E : Nat → ByteArray) (k : Nat) : shV I A S E (k * 4) = .int .i64 (I k) := by
  unfold shV; rw [if_pos (by omega), show k * 4 / 4 = k by omega]
theorem shV1 (I : Nat → Int) (A S E : Nat → ByteArray) (k : Nat) : shV I A S E (k * 4 + 1) = .string (A k) := by
  unfold shV; rw [if_neg (by omega), if_pos (by omega), show (k * 4 + 1) / 4 = k by omega]
theorem shV2 (I : Nat → Int) (A S E : Nat → ByteArray) (k : Nat) : shV I A S E (k * 4 + 2) = .string (S k) := by
  unfold shV; rw [if_neg (by omega), if_neg (by omega), if_pos (by omega), show (k * 4 + 2) / 4 = k by omega]
theorem shV3 (I : Nat → Int) (A S E : Nat → ByteArray) (k : Nat) : shV I A S E (k * 4 + 3) = .string (E k) := by
  unfold shV; rw [if_neg (by omega), if_neg (by omega), if_neg (by omega), show (k * 4 + 3) / 4 = k by omega]

/-- A row of the call's own that holds n shards. -/
def RowSh (w : World) (g n : Nat) : Prop := ∃ (I : Nat → Int) (A S E : Nat → ByteArray), w.rowIs g 35 (n * 4) (shV I A S E)

theorem parts4 (j : Nat) : ∃ q, j = q * 4 ∨ j = q * 4 + 1 ∨ j = q * 4 + 2 ∨ j = q * 4 + 3 := ⟨j / 4, by omega⟩

theorem RowSh.made (w : World) (n : Nat) : RowSh (w.alloc (.cells (shCells n) 35)) w.heap.size n := by
  refine ⟨fun _ => 0, fun _ => ByteArray.empty, fun _ => ByteArray.empty, fun _ => ByteArray.empty, _, heap_alloc_new _ _, size_madeCells _ _, fun i hi => ?_⟩
  have hs : shard0.cells = #[.int .i64 0, .string ByteArray.empty, .string ByteArray.empty, .string ByteArray.empty] := rfl
  obtain ⟨q, rfl | rfl | rfl | rfl⟩ := parts4 i
  · rw [shV0]; simp [shCells, madeCells, hi, hs]
  · rw [shV1]; simp [shCells, madeCells, hi, hs]
  · rw [shV2]; simp [shCells, madeCells, hi, hs]
  · rw [shV3]; simp [shCells, madeCells, hi, hs]

theorem RowSh.set {w : World} {g n : Nat} (h : RowSh w g n) (k : Nat) (x : Int) (s1 s2 s3 : ByteArray) :
    RowSh ((((w.setCell ⟨g, k * 4, none⟩ (.int .i64 x)).setCell ⟨g, k * 4 + 1, none⟩ (.string s1)).setCell ⟨g, k * 4 + 2, none⟩ (.string s2)).setCell ⟨g, k * 4 + 3, none⟩ (.string s3)) g n := by
  obtain ⟨I, A, S, E, h⟩ := h
  refine ⟨fun j => if j = k then x else I j, fun j => if j = k then s1 else A j, fun j => if j = k then s2 else S j, fun j => if j = k then s3 else E j,
    ((((h.set (k * 4) (.int .i64 x)).set (k * 4 + 1) (.string s1)).set (k * 4 + 2) (.string s2)).set (k * 4 + 3) (.string s3)).congr fun i _ => ?_⟩
  obtain ⟨q, rfl | rfl | rfl | rfl⟩ := parts4 i
  · rw [shV0, shV0, if_neg (by omega), if_neg (by omega), if_neg (by omega)]
    by_cases e : q = k
    · rw [if_pos (by omega), if_pos e]
    · rw [if_neg (by omega), if_neg e]
  · rw [shV1, shV1, if_neg (by omega), if_neg (by omega)]
    by_cases e : q = k
    · rw [if_pos (by omega), if_pos e]
    · rw [if_neg (by omega), if_neg (by omega), if_neg e]
  · rw [shV2, shV2, if_neg (by omega)]
    by_cases e : q = k
    · rw [if_pos (by omega), if_pos e]
    · rw [if_neg (by omega), if_neg (by omega), if_neg (by omega), if_neg e]
  · rw [shV3, shV3]
    by_cases e : q = k
    · rw [if_pos (by omega), if_pos e]
    · rw [if_neg (by omega), if_neg (by omega), if_neg (by omega), if_neg (by omega), if_neg e]

theorem RowSh.frozen {w : World} {g n : Nat} (h : RowSh w g n) (k : Nat) : w.frozen? ⟨g, k, none⟩ = false := by
  obtain ⟨I, A, S, E, h⟩ := h
  exact h.frozen k

/-- What the callers are told of the shards. -/
def Shards (w : World) (g n : Nat) (I : Nat → Int) : Prop := g < w.heap.size ∧ ∀ k, k < n → ∃ s1 s2 s3, w.cell? ⟨g, k * 4, none⟩ = some (.int .i64 (I k)) ∧
  w.cell? ⟨g, k * 4 + 1, none⟩ = some (.string s1) ∧ w.cell? ⟨g, k * 4 + 2, none⟩ = some (.string s2) ∧ w.cell? ⟨g, k * 4 + 3, none⟩ = some (.string s3)

theorem RowSh.shards {w : World} {g n : Nat} (h : RowSh w g n) : ∃ I, Shards w g n I := by
  obtain ⟨I, A, S, E, h⟩ := h
  refine ⟨I, h.lt, fun k hk => ⟨A k, S k, E k, ?_, ?_, ?_, ?_⟩⟩
  · rw [h.cell (by omega), shV0]
  · rw [h.cell (by omega), shV1]
  · rw [h.cell (by omega), shV2]
  · rw [h.cell (by omega), shV3]

theorem Shards.below {w w' : World} {g n : Nat} {I : Nat → Int} (h : Shards w g n I) (hb : Below w.heap.size w w') : Shards w' g n I := by
  refine ⟨Nat.lt_of_lt_of_le h.1 hb.size, fun k hk => ?_⟩
  obtain ⟨s1, s2, s3, c0, c1, c2, c3⟩ := h.2 k hk
  exact ⟨s1, s2, s3, (hb.cell (p := ⟨g, k * 4, none⟩) h.1).trans c0, (hb.cell (p := ⟨g, k * 4 + 1, none⟩) h.1).trans c1, (hb.cell (p := ⟨g, k * 4 + 2, none⟩) h.1).trans c2, (hb.cell (p := ⟨g, k * 4 + 3, none⟩) h.1).trans c3⟩

/-- What zzShardsOf hands back. -/
def OfS (w w' : World) (e : Ending) : Prop := ∃ n I, n ≤ 65536 ∧ e = .returned (.slice (some ⟨w.heap.size, 0, none⟩) n n) ∧ Shards w' w.heap.size n I ∧ Below w.heap.size w w'

set_option maxHeartbeats 400000 in
theorem shardsOf_any (a0 a1 a2 a3 : Option Addr) (n0 n1 n2 n3 c0 c1 c2 c3 : Nat) (w : World) (l0 : n0 ≤ 65536)
    (h0 : Ints w a0 n0) (h1 : Strs w a1 n1) (h2 : Strs w a2 n2) (h3 : Strs w a3 n3) :
    Calls Try.prog 10 #[.slice a0 n0 c0, .slice a1 n1 c1, .slice a2 n2 c2, .slice a3 n3 c3] w fun e w' => OfS w w' e := by
  go_enter Try.func10, Try.ntmps10
  go_upto_if 17 with fail
  go_cut [9] from 12 (fun s wx => (∃ m : Nat, m ≤ n0 ∧ m ≤ n1 ∧ s = .int .i64 m) ∧ w = wx)
  case first =>
    go_wp2
    · go_meet
      case rel => exact ⟨⟨n1, by omega, by omega, rfl⟩, rfl⟩
    · go_meet
      case rel => exact ⟨⟨n0, by omega, by omega, rfl⟩, rfl⟩
  case rest =>
  obtain ⟨⟨m1, e1, e2, rfl⟩, rfl⟩ := hcut
  go_upto_if 23 with fail
  go_cut [9] from 12 (fun s wx => (∃ m : Nat, m ≤ n0 ∧ m ≤ n1 ∧ m ≤ n2 ∧ s = .int .i64 m) ∧ w = wx)
  case first =>
    go_wp2
    · go_meet
      case rel => exact ⟨⟨n2, by omega, by omega, by omega, rfl⟩, rfl⟩
    · go_meet
      case rel => exact ⟨⟨m1, by omega, by omega, by omega, rfl⟩, rfl⟩
  case rest =>
  obtain ⟨⟨m2, f1, f2, f3, rfl⟩, rfl⟩ := hcut
  clear e1 e2
  go_upto_if 29 with fail
  go_cut [9] from 12 (fun s wx => (∃ m : Nat, m ≤ n0 ∧ m ≤ n1 ∧ m ≤ n2 ∧ m ≤ n3 ∧ s = .int .i64 m) ∧ w = wx)
  case first =>
    go_wp2
    · go_meet
      case rel => exact ⟨⟨n3, by omega, by omega, by omega, by omega, rfl⟩, rfl⟩
    · go_meet
      case rel => exact ⟨⟨m2, by omega, by omega, by omega, by omega, rfl⟩, rfl⟩
  case rest =>
  obtain ⟨⟨n, g0, g1, g2, g3, rfl⟩, rfl⟩ := hcut
  clear f1 f2 f3
  have hmk := run_make_shards n (by omega)
  go_wp2
  clear hmk
  go_loopw [11] (fun i wr => ∃ k : Nat, k ≤ n ∧ i = .int .i64 k ∧ RowSh wr w.heap.size n ∧ Below w.heap.size w wr) (fun i _ => n - (intOf i).toNat)
  case atStart => exact ⟨0, Nat.zero_le _, rfl, RowSh.made w n, (Below.refl _ _).alloc (Nat.le_refl _) _⟩
  case round =>
    obtain ⟨k, hk, rfl, hrow, hbel⟩ := hrel
    by_cases hlt : k < n
    · rcases h0 with h0 | ⟨b0, o0, f0, rfl, hb0, hc0⟩
      · omega
      rcases h1 with h1 | ⟨b1, o1, f1, rfl, hb1, hc1⟩
      · omega
      rcases h2 with h2 | ⟨b2, o2, f2, rfl, hb2, hc2⟩
      · omega
      rcases h3 with h3 | ⟨b3, o3, f3, rfl, hb3, hc3⟩
      · omega
      have q0 : wr.cell? ⟨b0, o0 + k, none⟩ = some (.int .i64 (f0 k)) := (hbel.cell (p := ⟨b0, o0 + k, none⟩) hb0).trans (hc0 k (by omega))
      have q1 : wr.cell? ⟨b1, o1 + k, none⟩ = some (.string (f1 k)) := (hbel.cell (p := ⟨b1, o1 + k, none⟩) hb1).trans (hc1 k (by omega)).1
      have q2 : wr.cell? ⟨b2, o2 + k, none⟩ = some (.string (f2 k)) := (hbel.cell (p := ⟨b2, o2 + k, none⟩) hb2).trans (hc2 k (by omega)).1
      have q3 : wr.cell? ⟨b3, o3 + k, none⟩ = some (.string (f3 k)) := (hbel.cell (p := ⟨b3, o3 + k, none⟩) hb3).trans (hc3 k (by omega)).1
      have t0 : (k : Int) < (n0 : Int) := by omega
      have t1 : (k : Int) < (n1 : Int) := by omega
      have t2 : (k : Int) < (n2 : Int) := by omega
      have t3 : (k : Int) < (n3 : Int) := by omega
      have t4 : (k : Int) < (n : Int) := by omega
      have z0 := hrow.frozen (k * 4)
      have z1 := hrow.frozen (k * 4 + 1)
      have z2 := hrow.frozen (k * 4 + 2)
      have z3 := hrow.frozen (k * 4 + 3)
      obtain ⟨I, hI⟩ := hrow.shards
      obtain ⟨s1, s2, s3, y0, y1, y2, y3⟩ := hI.2 k hlt
      have R := hrow.set k (f0 k) (f1 k) (f2 k) (f3 k)
      have B := (((hbel.setCell (p := ⟨w.heap.size, k * 4, none⟩) (Nat.le_refl _) (.int .i64 (f0 k))).setCell (p := ⟨w.heap.size, k * 4 + 1, none⟩) (Nat.le_refl _) (.string (f1 k))).setCell (p := ⟨w.heap.size, k * 4 + 2, none⟩) (Nat.le_refl _) (.string (f2 k))).setCell (p := ⟨w.heap.size, k * 4 + 3, none⟩) (Nat.le_refl _) (.string (f3 k))
      clear hc0 hc1 hc2 hc3 hI hrow hbel
      go_wp2
      go_region
      all_goals
        go_wp2
        go_roundw
        case rel => exact ⟨k + 1, by omega, by go_num, R, B.drew⟩
        case measure => simp [intOf]; omega
    · go_wp2
      go_ret
      obtain ⟨I, hI⟩ := hrow.shards
      exact ⟨n, I, by omega, rfl, hI, hbel⟩
end Go.Proofs.Qxb6001492a
