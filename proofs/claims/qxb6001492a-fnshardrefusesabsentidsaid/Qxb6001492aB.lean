/-
  Seat b6001492a: the contracts of zzShardCloneInts (8) and zzShardCloneStrings (9): a nil slice, or a new row that holds what the old one held.
-/
import Derived.Test.Qxb6001492aA
import Derived.Deep.OwnRows
namespace Go.Proofs.Qxb6001492a
open Go.RowKit

theorem Try.info3 : (Try.prog.info? 3).map (fun i => (i.zero, i.size, i.bytes)) = some (some (.int .i64 0), 1, 8) := by kernel_rfl
theorem Try.info9 : (Try.prog.info? 9).map (fun i => (i.zero, i.size, i.bytes)) = some (some (.string ByteArray.empty), 1, 16) := by kernel_rfl

/-- A row of the call's own that holds ints. -/
def RowI (w : World) (g n : Nat) : Prop := ∃ f : Nat → Int, w.rowIs g 3 n fun j => .int .i64 (f j)

theorem RowI.made (w : World) (n : Nat) : RowI (w.alloc (.cells (madeCells #[.int .i64 0] n) 3)) w.heap.size n :=
  ⟨fun _ => 0, World.rowIs_made w _ n 3⟩
theorem RowI.set {w : World} {g n : Nat} (h : RowI w g n) (k : Nat) (x : Int) : RowI (w.setCell ⟨g, k, none⟩ (.int .i64 x)) g n := by
  obtain ⟨f, hf⟩ := h
  refine ⟨fun j => if j = k then x else f j, (hf.set k _).congr fun i _ => ?_⟩
  by_cases e : i = k <;> simp [e]
theorem RowI.ints {w : World} {g n : Nat} (h : RowI w g n) : Ints w (some ⟨g, 0, none⟩) n := by
  obtain ⟨f, hf⟩ := h
  exact .inr ⟨g, 0, f, rfl, hf.lt, fun k hk => by simpa using hf.cell hk⟩
theorem RowI.cell {w : World} {g n : Nat} (h : RowI w g n) {k : Nat} (hk : k < n) : ∃ x, w.cell? ⟨g, k, none⟩ = some (.int .i64 x) := by
  obtain ⟨f, hf⟩ := h
  exact ⟨_, hf.cell hk⟩
theorem RowI.frozen {w : World} {g n : Nat} (h : RowI w g n) (k : Nat) : w.frozen? ⟨g, k, none⟩ = false := by
  obtain ⟨f, hf⟩ := h
  exact hf.frozen k

/-- What a clone hands back: a slice of the same length that holds ints, over memory of the call's own or none. -/
def CloneI (w w' : World) (n : Nat) (e : Ending) : Prop := ∃ a c, e = .returned (.slice a n c) ∧ Ints w' a n ∧ Below w.heap.size w w'

set_option maxHeartbeats 400000 in
theorem cloneInts_any (a : Option Addr) (len cap : Nat) (w : World) (hl : len ≤ 65536) (hn : a = none → len = 0) (h : Ints w a len) :
    Calls Try.prog 8 #[.slice a len cap] w fun e w' => CloneI w w' len e := by
  have hnil := fun w => Lib.run_eql_slice_nil (P := Try.prog) w 22 3 a len cap 0 0 Try.underlying22
  have hmk := run_make_row' (P := Try.prog) 22 3 (.int .i64 0) 8 Try.underlying22 Try.info3 rfl .i64 .i64 len (by omega) (by omega)
  rcases a with _ | a
  · obtain rfl := hn rfl
    go_enter Try.func8, Try.ntmps8
    go_wp2
    go_ret
    exact ⟨none, 0, rfl, .inl rfl, Below.refl _ _⟩
  · go_enter Try.func8, Try.ntmps8
    go_wp2
    clear hmk hnil
    go_loopw [4] (fun i wr => ∃ k : Nat, k ≤ len ∧ i = .int .i64 k ∧ RowI wr w.heap.size len ∧ Below w.heap.size w wr) (fun i _ => len - (intOf i).toNat)
    case atStart => exact ⟨0, Nat.zero_le _, rfl, RowI.made w len, (Below.refl _ _).alloc (Nat.le_refl _) _⟩
    case round =>
      obtain ⟨k, hk, rfl, hrow, hbel⟩ := hrel
      by_cases hlt : k < len
      · rcases h with h | ⟨b, off, f, he, hb, hc⟩
        · omega
        · obtain rfl := Option.some.inj he
          have hck : wr.cell? ⟨b, off + k, none⟩ = some (.int .i64 (f k)) := (hbel.cell (p := ⟨b, off + k, none⟩) hb).trans (hc k hlt)
          obtain ⟨x, hx⟩ := hrow.cell hlt
          have hfr := hrow.frozen k
          have R := hrow.set k (f k)
          have B := hbel.setCell (p := ⟨w.heap.size, k, none⟩) (Nat.le_refl _) (.int .i64 (f k))
          clear hc hrow hbel
          go_wp2
          go_roundw
          case rel => exact ⟨k + 1, by omega, by go_num, R, B⟩
          case measure => simp [intOf]; omega
      · go_wp2
        go_ret
        exact ⟨_, _, rfl, hrow.ints, hbel⟩

/-- A row of the call's own that holds strings. -/
def RowS (w : World) (g n : Nat) : Prop := ∃ f : Nat → ByteArray, (∀ j, (f j).size ≤ maxLen) ∧ w.rowIs g 9 n fun j => .string (f j)

theorem RowS.made (w : World) (n : Nat) : RowS (w.alloc (.cells (madeCells #[.string ByteArray.empty] n) 9)) w.heap.size n :=
  ⟨fun _ => ByteArray.empty, fun _ => Nat.zero_le _, World.rowIs_made w _ n 9⟩
theorem RowS.set {w : World} {g n : Nat} (h : RowS w g n) (k : Nat) (x : ByteArray) (hx : x.size ≤ maxLen) : RowS (w.setCell ⟨g, k, none⟩ (.string x)) g n := by
  obtain ⟨f, hm, hf⟩ := h
  refine ⟨fun j => if j = k then x else f j, fun j => ?_, (hf.set k _).congr fun i _ => ?_⟩
  · by_cases e : j = k <;> simp [e, hx, hm]
  · by_cases e : i = k <;> simp [e]
theorem RowS.strs {w : World} {g n : Nat} (h : RowS w g n) : Strs w (some ⟨g, 0, none⟩) n := by
  obtain ⟨f, hm, hf⟩ := h
  exact .inr ⟨g, 0, f, rfl, hf.lt, fun k hk => ⟨by simpa using hf.cell hk, hm k⟩⟩
theorem RowS.cell {w : World} {g n : Nat} (h : RowS w g n) {k : Nat} (hk : k < n) : ∃ x, w.cell? ⟨g, k, none⟩ = some (.string x) := by
  obtain ⟨f, _, hf⟩ := h
  exact ⟨_, hf.cell hk⟩
theorem RowS.frozen {w : World} {g n : Nat} (h : RowS w g n) (k : Nat) : w.frozen? ⟨g, k, none⟩ = false := by
  obtain ⟨f, _, hf⟩ := h
  exact hf.frozen k

/-- What a clone hands back: a slice of the same length that holds strings. -/
def CloneS (w w' : World) (n : Nat) (e : Ending) : Prop := ∃ a c, e = .returned (.slice a n c) ∧ Strs w' a n ∧ Below w.heap.size w w'

set_option maxHeartbeats 400000 in
theorem cloneStrings_any (a : Option Addr) (len cap : Nat) (w : World) (hl : len ≤ 65536) (hn : a = none → len = 0) (h : Strs w a len) :
    Calls Try.prog 9 #[.slice a len cap] w fun e w' => CloneS w w' len e := by
  have hnil := fun w => Lib.run_eql_slice_nil (P := Try.prog) w 23 9 a len cap 0 0 Try.underlying23
  have hmk := run_make_row' (P := Try.prog) 23 9 (.string ByteArray.empty) 16 Try.underlying23 Try.info9 rfl .i64 .i64 len (by omega) (by omega)
  rcases a with _ | a
  · obtain rfl := hn rfl
    go_enter Try.func9, Try.ntmps9
    go_wp2
    go_ret
    exact ⟨none, 0, rfl, .inl rfl, Below.refl _ _⟩
  · go_enter Try.func9, Try.ntmps9
    go_wp2
    clear hmk hnil
    go_loopw [4] (fun i wr => ∃ k : Nat, k ≤ len ∧ i = .int .i64 k ∧ RowS wr w.heap.size len ∧ Below w.heap.size w wr) (fun i _ => len - (intOf i).toNat)
    case atStart => exact ⟨0, Nat.zero_le _, rfl, RowS.made w len, (Below.refl _ _).alloc (Nat.le_refl _) _⟩
    case round =>
      obtain ⟨k, hk, rfl, hrow, hbel⟩ := hrel
      by_cases hlt : k < len
      · rcases h with h | ⟨b, off, f, he, hb, hc⟩
        · omega
        · obtain rfl := Option.some.inj he
          have hck : wr.cell? ⟨b, off + k, none⟩ = some (.string (f k)) := (hbel.cell (p := ⟨b, off + k, none⟩) hb).trans (hc k hlt).1
          obtain ⟨x, hx⟩ := hrow.cell hlt
          have hfr := hrow.frozen k
          have R := hrow.set k (f k) (hc k hlt).2
          have B := hbel.setCell (p := ⟨w.heap.size, k, none⟩) (Nat.le_refl _) (.string (f k))
          clear hc hrow hbel
          go_wp2
          go_roundw
          case rel => exact ⟨k + 1, by omega, by go_num, R, B⟩
          case measure => simp [intOf]; omega
      · go_wp2
        go_ret
        exact ⟨_, _, rfl, hrow.strs, hbel⟩
end Go.Proofs.Qxb6001492a
