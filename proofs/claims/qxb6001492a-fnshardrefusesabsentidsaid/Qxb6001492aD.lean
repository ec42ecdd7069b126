/-
  Seat b6001492a: the contract of (*Cluster).Shard (11) at an id that no shard bears.
-/
import Derived.Test.Qxb6001492aC
namespace Go.Proofs.Qxb6001492a
open Go.RowKit

/-- The result's own block, as it is laid and as it is left: a zero Shard. -/
def Z35 : Obj := .cells #[.int .i64 0, .string ByteArray.empty, .string ByteArray.empty, .string ByteArray.empty] 35

set_option maxHeartbeats 400000 in
theorem shard_absent (b g n : Nat) (I : Nat → Int) (q : Int) (w : World) (hb : b < w.heap.size) (hc : w.cell? ⟨b, 1, none⟩ = some (.slice (some ⟨g, 0, none⟩) n n))
    (hn : n ≤ 65536) (hS : Shards w g n I) (hq : ∀ k, k < n → (I k == q) = false) :
    Calls Try.prog 11 #[.pointer (some ⟨b, 0, none⟩), .int .i64 q] w fun e w' =>
      e = .returned (.tuple #[.agg #[.int .i64 0, .string ByteArray.empty, .string ByteArray.empty, .string ByteArray.empty], .bool false]) ∧ Below w.heap.size w w' := by
  go_enter Try.func11, Try.ntmps11
  go_wp2
  go_loopw [13] (fun i wr => ∃ k : Nat, k ≤ n ∧ i = .int .i64 k ∧ Below (w.alloc Z35).heap.size (w.alloc Z35) wr) (fun i _ => n - (intOf i).toNat)
  case atStart => exact ⟨0, Nat.zero_le _, rfl, Below.refl _ _⟩
  case round =>
    obtain ⟨k, hk, rfl, hbel⟩ := hrel
    have hbw : Below w.heap.size w wr := ((Below.refl _ w).alloc (Nat.le_refl _) Z35).trans (hbel.mono (by simp))
    by_cases hlt : k < n
    · obtain ⟨s1, s2, s3, y0, y1, y2, y3⟩ := (hS.below hbw).2 k hlt
      have hqk := hq k hlt
      have B := hbel.alloc hbel.size (.cells #[.int .i64 (I k), .string s1, .string s2, .string s3] 35)
      clear hbel hbw hS hq hc
      go_wp2
      go_roundw
      case rel => exact ⟨k + 1, by omega, by go_num, B⟩
      case measure => simp [intOf]; omega
    · have e0 : wr.cell? ⟨w.heap.size, 0, none⟩ = some (.int .i64 0) := (hbel.cell (p := ⟨w.heap.size, 0, none⟩) (by simp)).trans (by simp [Z35])
      have e1 : wr.cell? ⟨w.heap.size, 1, none⟩ = some (.string ByteArray.empty) := (hbel.cell (p := ⟨w.heap.size, 1, none⟩) (by simp)).trans (by simp [Z35])
      have e2 : wr.cell? ⟨w.heap.size, 2, none⟩ = some (.string ByteArray.empty) := (hbel.cell (p := ⟨w.heap.size, 2, none⟩) (by simp)).trans (by simp [Z35])
      have e3 : wr.cell? ⟨w.heap.size, 3, none⟩ = some (.string ByteArray.empty) := (hbel.cell (p := ⟨w.heap.size, 3, none⟩) (by simp)).trans (by simp [Z35])
      have r0 : wr.frozen? ⟨w.heap.size, 0, none⟩ = false := (hbel.frozen (p := ⟨w.heap.size, 0, none⟩) (by simp)).trans (by simp [Z35])
      have r1 : wr.frozen? ⟨w.heap.size, 1, none⟩ = false := (hbel.frozen (p := ⟨w.heap.size, 1, none⟩) (by simp)).trans (by simp [Z35])
      have r2 : wr.frozen? ⟨w.heap.size, 2, none⟩ = false := (hbel.frozen (p := ⟨w.heap.size, 2, none⟩) (by simp)).trans (by simp [Z35])
      have r3 : wr.frozen? ⟨w.heap.size, 3, none⟩ = false := (hbel.frozen (p := ⟨w.heap.size, 3, none⟩) (by simp)).trans (by simp [Z35])
      clear hbel hS hq hc
      go_wp2
      refine bodyPost_ret (v := .tuple #[.agg #[.int .i64 0, .string ByteArray.empty, .string ByteArray.empty, .string ByteArray.empty], .bool false]) (by simp [results, Try.results11, go_sem, e0, e1, e2, e3]; rfl) rfl ⟨rfl, ?_⟩
      exact (((hbw.setCell (Nat.le_refl _) _).setCell (Nat.le_refl _) _).setCell (Nat.le_refl _) _).setCell (Nat.le_refl _) _
end Go.Proofs.Qxb6001492a
