/-
  Seat b6002369aF: the contracts of ZZNewRegexpRoom (6), take (9), ZZTake (7), ZZTaken (8).
-/
import Derived.Test.Qxb6002369aFmtA
import Derived.RegionTactic
import Derived.ChangeAlike
import Derived.BigRegion
import Derived.Deep.RegionWith
namespace Go.Proofs.Qxb6002369aFmt
open Go.RowKit Go.Extern.Stop Go.Stop Go.Extern
set_option linter.unusedVariables false      -- bounds that only the walk's arithmetic uses

/-- Block b is a room of limit L that has taken t. -/
def Room (w : World) (b : Nat) (L t : Int) : Prop := w.heap[b]? = some (.cells #[.int .i64 L, .int .i64 t] 32 (0, 0))

theorem Room.lt {w : World} {b : Nat} {L t : Int} (h : Room w b L t) : b < w.heap.size := by
  rcases Nat.lt_or_ge b w.heap.size with k | k
  · exact k
  · rw [Room, Array.getElem?_eq_none k] at h; cases h
theorem Room.cell0 {w : World} {b : Nat} {L t : Int} (h : Room w b L t) : w.cell? ⟨b, 0, none⟩ = some (.int .i64 L) := by
  unfold Room at h; simp [World.cell?, h]
theorem Room.cell1 {w : World} {b : Nat} {L t : Int} (h : Room w b L t) : w.cell? ⟨b, 1, none⟩ = some (.int .i64 t) := by
  unfold Room at h; simp [World.cell?, h]
theorem Room.free {w : World} {b : Nat} {L t : Int} (h : Room w b L t) : w.frozen? ⟨b, 1, none⟩ = false := by
  unfold Room at h; simp [World.frozen?, h]
theorem Room.kept {w w' : World} {b : Nat} {L t : Int} {row : Option Nat} (h : Room w b L t) (hg : w.grownBy w' row) (hne : some b ≠ row) : Room w' b L t := by
  unfold Room
  rw [hg.block b h.lt hne]
  exact h
theorem Room.alloc {w : World} {b : Nat} {L t : Int} (h : Room w b L t) (o : Obj) : Room (w.alloc o) b L t := by
  unfold Room
  rw [Below.heap_alloc w o b h.lt]
  exact h
theorem Room.made (w : World) (L : Int) : Room (w.alloc (.cells #[.int .i64 L, .int .i64 0] 32)) w.heap.size L 0 := heap_alloc_new w _
theorem Room.set {w : World} {b : Nat} {L t : Int} (h : Room w b L t) (s : Int) : Room (w.setCell ⟨b, 1, none⟩ (.int .i64 s)) b L s := by
  have k := heap_setCell_same w b 1 _ 32 (.int .i64 s) h
  simpa [Room] using k

/-- A new room: empty, in memory of its own. -/
def NewRoom (w : World) (L : Int) (e : Ending) (w' : World) : Prop := ∃ b, e = .returned (.pointer (some ⟨b, 0, none⟩)) ∧ w.heap.size ≤ b ∧ Room w' b L 0 ∧ w.grownBy w' none
theorem new_any (L : Int) (w : World) :
    Calls Tryf.prog 6 #[.int .i64 L] w fun e w' => NewRoom w L e w' := by
  go_enter Tryf.func6, Tryf.ntmps6
  go_wp2
  go_ret
  exact ⟨w.heap.size, rfl, Nat.le_refl _, Room.made w L, World.grownBy_alloc w _ none⟩

theorem taken_any (b : Nat) (L t : Int) (w : World) (h : Room w b L t) :
    Calls Tryf.prog 8 #[.pointer (some ⟨b, 0, none⟩)] w fun e w' => e = .returned (.int .i64 t) ∧ w = w' := by
  have h1 := h.cell1
  go_enter Tryf.func8, Tryf.ntmps8
  go_wp2
  go_ret
  exact ⟨rfl, rfl⟩

set_option maxHeartbeats 400000 in
theorem take_ok (b : Nat) (L t s : Int) (w : World) (h : Room w b L t) (l0 : 0 ≤ L) (l1 : L ≤ 268435456) (t0 : 0 ≤ t) (t1 : t ≤ L) (s0 : 0 ≤ s) (s1 : s ≤ 536870912) (hs : s ≤ L - t) :
    Calls Tryf.prog 9 #[.pointer (some ⟨b, 0, none⟩), .int .i64 s] w fun e w' => e = .returned .nilIface ∧ Room w' b L (t + s) ∧ w.grownBy w' (some b) := by
  have h0 := h.cell0
  have h1 := h.cell1
  have hf := h.free
  have R := h.set (t + s)
  go_enter Tryf.func9, Tryf.ntmps9
  go_wp2
  go_region
  all_goals
    go_wp2
    go_ret
    exact ⟨rfl, R, ⟨rfl, rfl, rfl, by simp [World.setCell], fun k _ hk => Below.heap_setCell w _ _ k (fun e => hk (by rw [e]))⟩⟩

/-- 'It returned an error' (behind a name, so that the walk's simp leaves it whole). -/
def IsErr (e : Ending) : Prop := ∃ p, e = .returned (.iface 38 (.pointer p))
theorem isErr_mk (p : Option Addr) : IsErr (.returned (.iface 38 (.pointer p))) := ⟨p, rfl⟩

set_option maxHeartbeats 400000 in
theorem take_no (F : Interp) (b : Nat) (L t s : Int) (w : World) (hF : F.answers w.tape) (h : Room w b L t) (l0 : 0 ≤ L) (l1 : L ≤ 268435456) (t0 : 0 ≤ t) (t1 : t ≤ L) (s0 : 0 ≤ s) (s1 : s ≤ 536870912) (hs : L - t < s) :
    Calls Tryf.prog 9 #[.pointer (some ⟨b, 0, none⟩), .int .i64 s] w fun e w' => IsErr e ∧ w.grownBy w' none := by
  have h0 := h.cell0
  have h1 := h.cell1
  have hb := h.lt
  have HR : Hid (Room w b L t) := h
  clear h
  have E := errorf_any F w.heap.size (IntKind.i64.wrap (t + s)) L ((w.alloc (.cells #[.iface 3 (.int .i64 (IntKind.i64.wrap (t + s))), .iface 3 (.int .i64 L)] 20)).drew.drew) hF (by simp) (by simp)
  go_enter Tryf.func9, Tryf.ntmps9
  go_wp2
  go_region
  all_goals
    go_wp2_with fail
  go_region_with (go_at_call 10; refine E.mono ?_; rintro e w' ⟨rfl, hbel⟩)
  all_goals
    have hb2 : Below w.heap.size w w' := ((((Below.refl _ w).alloc (Nat.le_refl _) _).drew).drew).trans (hbel.mono (by simp))
    clear hbel E
    go_wp2
    go_ret
    exact ⟨isErr_mk _, hb2.os, hb2.tape, hb2.output, hb2.size, fun k hk _ => hb2.block k hk⟩

/-- ZZTake is take. -/
theorem zzTake_ok (b : Nat) (L t s : Int) (w : World) (h : Room w b L t) (l0 : 0 ≤ L) (l1 : L ≤ 268435456) (t0 : 0 ≤ t) (t1 : t ≤ L) (s0 : 0 ≤ s) (s1 : s ≤ 536870912) (hs : s ≤ L - t) :
    Calls Tryf.prog 7 #[.pointer (some ⟨b, 0, none⟩), .int .i64 s] w fun e w' => e = .returned .nilIface ∧ Room w' b L (t + s) ∧ w.grownBy w' (some b) := by
  go_enter Tryf.func7, Tryf.ntmps7
  go_wp2_with fail
  refine (take_ok b L t s _ h l0 l1 t0 t1 s0 s1 hs).mono ?_
  rintro e w' ⟨rfl, hr, hg⟩
  go_wp2
  go_ret
  exact ⟨rfl, hr, hg⟩
theorem zzTake_no (F : Interp) (b : Nat) (L t s : Int) (w : World) (hF : F.answers w.tape) (h : Room w b L t) (l0 : 0 ≤ L) (l1 : L ≤ 268435456) (t0 : 0 ≤ t) (t1 : t ≤ L) (s0 : 0 ≤ s) (s1 : s ≤ 536870912) (hs : L - t < s) :
    Calls Tryf.prog 7 #[.pointer (some ⟨b, 0, none⟩), .int .i64 s] w fun e w' => IsErr e ∧ w.grownBy w' none := by
  go_enter Tryf.func7, Tryf.ntmps7
  go_wp2_with fail
  refine (take_no F b L t s _ hF h l0 l1 t0 t1 s0 s1 hs).mono ?_
  rintro e w' ⟨⟨p, rfl⟩, hg⟩
  go_wp2
  go_ret
  exact ⟨isErr_mk _, hg⟩

/-- What one take does to a room, both ways. -/
def Took (F : Interp) (w : World) (b : Nat) (L t s : Int) (v : Value) (w' : World) : Prop :=
  F.answers w'.tape ∧ ((s ≤ L - t ∧ v = .nilIface ∧ Room w' b L (t + s)) ∨ (L - t < s ∧ (∃ p, v = .iface 38 (.pointer p)) ∧ Room w' b L t)) ∧ w.grownBy w' (some b)

theorem zzTake_any (F : Interp) (b : Nat) (L t s : Int) (w : World) (hF : F.answers w.tape) (h : Room w b L t) (l0 : 0 ≤ L) (l1 : L ≤ 268435456) (t0 : 0 ≤ t) (t1 : t ≤ L) (s0 : 0 ≤ s) (s1 : s ≤ 536870912) :
    Calls Tryf.prog 7 #[.pointer (some ⟨b, 0, none⟩), .int .i64 s] w fun e w' => ∃ v, e = .returned v ∧ Took F w b L t s v w' := by
  by_cases hs : s ≤ L - t
  · refine (zzTake_ok b L t s w h l0 l1 t0 t1 s0 s1 hs).mono ?_
    rintro e w' ⟨rfl, hr, hg⟩
    exact ⟨_, rfl, by rw [hg.tape]; exact hF, .inl ⟨hs, rfl, hr⟩, hg⟩
  · refine (zzTake_no F b L t s w hF h l0 l1 t0 t1 s0 s1 (by omega)).mono ?_
    rintro e w' ⟨⟨p, rfl⟩, hg⟩
    exact ⟨_, rfl, by rw [hg.tape]; exact hF, .inr ⟨by omega, ⟨p, rfl⟩, h.kept hg (by simp)⟩, hg.os, hg.tape, hg.output, hg.size, fun k hk _ => hg.block k hk (by simp)⟩

end Go.Proofs.Qxb6002369aFmt
