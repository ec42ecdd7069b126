/-
  Seat b6001492a: what the walks are told of slices, and the contracts of the functions that only read: zzShardAddLens (14), zzShardBytes (7), zzBytes (12).
-/
import Derived.Test.Qxb6001492aRows
import Derived.WalkKit
import Derived.WalkSpells
import Derived.WalkLawsBesides
namespace Go.Proofs.Qxb6001492a
open Go.RowKit

/-- What a walk is told of a slice of strings: it has no element, or its elements lie in a row and are strings. -/
def Strs (w : World) (a : Option Addr) (len : Nat) : Prop :=
  len = 0 ∨ ∃ (b off : Nat) (f : Nat → ByteArray), a = some ⟨b, off, none⟩ ∧ b < w.heap.size ∧ ∀ k, k < len → w.cell? ⟨b, off + k, none⟩ = some (.string (f k)) ∧ (f k).size ≤ maxLen

/-- The same of a slice of ints. -/
def Ints (w : World) (a : Option Addr) (len : Nat) : Prop :=
  len = 0 ∨ ∃ (b off : Nat) (f : Nat → Int), a = some ⟨b, off, none⟩ ∧ b < w.heap.size ∧ ∀ k, k < len → w.cell? ⟨b, off + k, none⟩ = some (.int .i64 (f k))

theorem Strs.below {w w' : World} {a : Option Addr} {len : Nat} (h : Strs w a len) (hb : Below w.heap.size w w') : Strs w' a len := by
  rcases h with h | ⟨b, off, f, ha, hlt, hc⟩
  · exact .inl h
  · exact .inr ⟨b, off, f, ha, Nat.lt_of_lt_of_le hlt hb.size, fun k hk => ⟨(hb.cell (p := ⟨b, off + k, none⟩) hlt).trans (hc k hk).1, (hc k hk).2⟩⟩

theorem Ints.below {w w' : World} {a : Option Addr} {len : Nat} (h : Ints w a len) (hb : Below w.heap.size w w') : Ints w' a len := by
  rcases h with h | ⟨b, off, f, ha, hlt, hc⟩
  · exact .inl h
  · exact .inr ⟨b, off, f, ha, Nat.lt_of_lt_of_le hlt hb.size, fun k hk => (hb.cell (p := ⟨b, off + k, none⟩) hlt).trans (hc k hk)⟩

set_option maxHeartbeats 400000 in
theorem addLens_any (t : Int) (a : Option Addr) (len cap : Nat) (w : World) (hl : len ≤ 65536) (h : Strs w a len) :
    Calls Try.prog 14 #[.int .i64 t, .slice a len cap] w fun e w' => (∃ n : Int, e = .returned (.int .i64 n)) ∧ w' = w := by
  go_enter Try.func14, Try.ntmps14
  go_wp2
  go_loop [0, 5] (fun t i => ∃ (n : Int) (k : Nat), k ≤ len ∧ t = .int .i64 n ∧ i = .int .i64 k) (fun _ i => len - (intOf i).toNat)
  case atStart => exact ⟨t, 0, Nat.zero_le _, rfl, rfl⟩
  case round =>
    obtain ⟨n, k, hk, rfl, rfl⟩ := hrel
    by_cases hlt : k < len
    · rcases h with h | ⟨b, off, f, rfl, hb, hc⟩
      · omega
      · obtain ⟨hck, hfk⟩ := hc k hlt
        unfold maxLen at hfk
        clear hc
        go_wp2
        · go_ret
          exact ⟨⟨n, rfl⟩, rfl⟩
        · go_round
          case rel => exact ⟨_, k + 1, by omega, rfl, by go_num⟩
          case measure => simp [intOf]; omega
    · go_wp2
      go_ret
      exact ⟨⟨n, rfl⟩, rfl⟩

set_option maxHeartbeats 400000 in
theorem shardBytes_any (a0 a1 a2 a3 : Option Addr) (n0 n1 n2 n3 c0 c1 c2 c3 : Nat) (w : World) (l0 : n0 ≤ 65536) (l1 : n1 ≤ 65536) (l2 : n2 ≤ 65536) (l3 : n3 ≤ 65536)
    (h1 : Strs w a1 n1) (h2 : Strs w a2 n2) (h3 : Strs w a3 n3) :
    Calls Try.prog 7 #[.slice a0 n0 c0, .slice a1 n1 c1, .slice a2 n2 c2, .slice a3 n3 c3] w fun e w' => (∃ n : Int, e = .returned (.int .i64 n)) ∧ w' = w := by
  go_enter Try.func7, Try.ntmps7
  go_wp2_with fail
  refine (addLens_any _ a1 n1 c1 _ l1 h1).mono ?_
  rintro e w' ⟨⟨m1, rfl⟩, rfl⟩
  go_wp2_with fail
  refine (addLens_any _ a2 n2 c2 _ l2 h2).mono ?_
  rintro e w' ⟨⟨m2, rfl⟩, rfl⟩
  go_wp2_with fail
  refine (addLens_any _ a3 n3 c3 _ l3 h3).mono ?_
  rintro e w' ⟨⟨m3, rfl⟩, rfl⟩
  go_wp2
  go_ret
  exact ⟨⟨m3, rfl⟩, rfl⟩

/-- 'It returned some bool' (behind a name, so that the walk's simp leaves it whole). -/
def IsB (e : Ending) : Prop := ∃ r : Bool, e = .returned (.bool r)
theorem isB_mk (r : Bool) : IsB (.returned (.bool r)) := ⟨r, rfl⟩

set_option maxHeartbeats 1000000 in
theorem zzBytes_any (a0 a1 a2 a3 : Option Addr) (n0 n1 n2 n3 c0 c1 c2 c3 : Nat) (q : Int) (w : World) (m0 : n0 ≤ maxLen) (m1 : n1 ≤ maxLen) (m2 : n2 ≤ maxLen) (m3 : n3 ≤ maxLen)
    (h1 : Strs w a1 n1) (h2 : Strs w a2 n2) (h3 : Strs w a3 n3) :
    Calls Try.prog 12 #[.slice a0 n0 c0, .slice a1 n1 c1, .slice a2 n2 c2, .slice a3 n3 c3, .int .i64 q] w fun e w' => IsB e ∧ w' = w := by
  unfold maxLen at m0 m1 m2 m3
  go_enter Try.func12, Try.ntmps12
  go_wp2
  · go_ret
    exact ⟨isB_mk _, rfl⟩
  · go_ret
    exact ⟨isB_mk _, rfl⟩
  · go_ret
    exact ⟨isB_mk _, rfl⟩
  · go_loop [11, 12] (fun zn i => ∃ (n : Int) (k : Nat), k ≤ n1 ∧ n ≤ 1048576 ∧ 0 ≤ n ∧ zn = .int .i64 n ∧ i = .int .i64 k) (fun _ i => n1 - (intOf i).toNat)
    case atStart => exact ⟨_, 0, Nat.zero_le _, by omega, by omega, rfl, rfl⟩
    case round =>
      obtain ⟨z1, k, hk, hz, hz0, rfl, rfl⟩ := hrel
      by_cases hlt : k < n1
      · rcases h1 with h1 | ⟨b, off, f, rfl, hb, hc⟩
        · omega
        · obtain ⟨hck, hfk⟩ := hc k hlt
          unfold maxLen at hfk
          clear hc
          go_wp2
          · go_ret
            exact ⟨isB_mk _, rfl⟩
          · go_ret
            exact ⟨isB_mk _, rfl⟩
          · go_round
            case rel => exact ⟨_, k + 1, by omega, by omega, by omega, rfl, by go_num⟩
            case measure => simp [intOf]; omega
      · go_wp2
        · go_ret
          exact ⟨isB_mk _, rfl⟩
        · go_ret
          exact ⟨isB_mk _, rfl⟩
        · go_loop [11, 13] (fun zn i => ∃ (n : Int) (k : Nat), k ≤ n2 ∧ n ≤ 1048576 ∧ 0 ≤ n ∧ zn = .int .i64 n ∧ i = .int .i64 k) (fun _ i => n2 - (intOf i).toNat)
          case atStart => exact ⟨_, 0, Nat.zero_le _, by omega, by omega, rfl, rfl⟩
          case round =>
            obtain ⟨z2, k, hk, hz, hz0, rfl, rfl⟩ := hrel
            by_cases hlt : k < n2
            · rcases h2 with h2 | ⟨b, off, f, rfl, hb, hc⟩
              · omega
              · obtain ⟨hck, hfk⟩ := hc k hlt
                unfold maxLen at hfk
                clear hc
                go_wp2
                · go_ret
                  exact ⟨isB_mk _, rfl⟩
                · go_ret
                  exact ⟨isB_mk _, rfl⟩
                · go_round
                  case rel => exact ⟨_, k + 1, by omega, by omega, by omega, rfl, by go_num⟩
                  case measure => simp [intOf]; omega
            · go_wp2
              · go_ret
                exact ⟨isB_mk _, rfl⟩
              · go_ret
                exact ⟨isB_mk _, rfl⟩
              · go_loop [11, 14] (fun zn i => ∃ (n : Int) (k : Nat), k ≤ n3 ∧ n ≤ 1048576 ∧ 0 ≤ n ∧ zn = .int .i64 n ∧ i = .int .i64 k) (fun _ i => n3 - (intOf i).toNat)
                case atStart => exact ⟨_, 0, Nat.zero_le _, by omega, by omega, rfl, rfl⟩
                case round =>
                  obtain ⟨z3, k, hk, hz, hz0, rfl, rfl⟩ := hrel
                  by_cases hlt : k < n3
                  · rcases h3 with h3 | ⟨b, off, f, rfl, hb, hc⟩
                    · omega
                    · obtain ⟨hck, hfk⟩ := hc k hlt
                      unfold maxLen at hfk
                      clear hc
                      go_wp2
                      · go_ret
                        exact ⟨isB_mk _, rfl⟩
                      · go_ret
                        exact ⟨isB_mk _, rfl⟩
                      · go_round
                        case rel => exact ⟨_, k + 1, by omega, by omega, by omega, rfl, by go_num⟩
                        case measure => simp [intOf]; omega
                  · go_wp2
                    go_ret
                    exact ⟨isB_mk _, rfl⟩
end Go.Proofs.Qxb6001492a
