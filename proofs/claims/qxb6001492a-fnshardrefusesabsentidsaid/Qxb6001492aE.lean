/-
  Seat b6001492a: the walk of FnShardRefusesAbsentID (4), out of the contracts.
-/
import Derived.Test.Qxb6001492aD
namespace Go.Proofs.Qxb6001492a
open Go.RowKit

set_option maxHeartbeats 1000000 in
theorem law_small (a0 a1 a2 a3 : Option Addr) (n0 n1 n2 n3 c0 c1 c2 c3 : Nat) (q : Int) (w : World) (l0 : n0 ≤ 65536) (l1 : n1 ≤ 65536) (l2 : n2 ≤ 65536) (l3 : n3 ≤ 65536)
    (z0 : Hid (a0 = none → n0 = 0)) (z1 : Hid (a1 = none → n1 = 0)) (z2 : Hid (a2 = none → n2 = 0)) (z3 : Hid (a3 = none → n3 = 0))
    (h0 : Ints w a0 n0) (h1 : Strs w a1 n1) (h2 : Strs w a2 n2) (h3 : Strs w a3 n3) :
    Calls Try.prog 4 #[.slice a0 n0 c0, .slice a1 n1 c1, .slice a2 n2 c2, .slice a3 n3 c3, .int .i64 q] w fun e w' => e = .returned (.bool true) ∧ Below w.heap.size w w' := by
  go_enter Try.func4, Try.ntmps4
  go_wp2_with fail
  refine (zzBytes_any a0 a1 a2 a3 n0 n1 n2 n3 c0 c1 c2 c3 q w (by unfold maxLen; omega) (by unfold maxLen; omega) (by unfold maxLen; omega) (by unfold maxLen; omega) h1 h2 h3).mono ?_
  rintro e w' ⟨⟨r, rfl⟩, rfl⟩
  cases r
  · go_wp2
    go_ret
    exact ⟨rfl, Below.refl _ _⟩
  go_wp2_with fail
  refine (shardBytes_any a0 a1 a2 a3 n0 n1 n2 n3 c0 c1 c2 c3 _ l0 l1 l2 l3 h1 h2 h3).mono ?_
  rintro e w' ⟨⟨m, rfl⟩, rfl⟩
  by_cases hm : 1048576 < m
  · go_wp2
    go_ret
    exact ⟨rfl, Below.refl _ _⟩
  go_wp2_with fail
  clear hm
  refine (cloneInts_any a0 n0 c0 _ l0 z0.out h0).mono ?_
  rintro e w1 ⟨b0, d0, rfl, k0, B1⟩
  have p1 := h1.below B1
  have p2 := h2.below B1
  have p3 := h3.below B1
  clear h0 h1 h2 h3
  have B1 : Hid (Below w'.heap.size w' w1) := B1
  go_wp2_with fail
  refine (cloneStrings_any a1 n1 c1 _ l1 z1.out p1).mono ?_
  rintro e w2 ⟨b1, d1, rfl, k1, B2⟩
  replace p2 := p2.below B2
  replace p3 := p3.below B2
  replace k0 := k0.below B2
  replace B1 : Hid (Below w'.heap.size w' w2) := B1.out.trans (B2.mono B1.out.size)
  clear B2 p1
  go_wp2_with fail
  refine (cloneStrings_any a2 n2 c2 _ l2 z2.out p2).mono ?_
  rintro e w3 ⟨b2, d2, rfl, k2, B2⟩
  replace p3 := p3.below B2
  replace k0 := k0.below B2
  replace k1 := k1.below B2
  replace B1 : Hid (Below w'.heap.size w' w3) := B1.out.trans (B2.mono B1.out.size)
  clear B2 p2
  go_wp2_with fail
  refine (cloneStrings_any a3 n3 c3 _ l3 z3.out p3).mono ?_
  rintro e w4 ⟨b3, d3, rfl, k3, B2⟩
  replace k0 := k0.below B2
  replace k1 := k1.below B2
  replace k2 := k2.below B2
  replace B1 : Hid (Below w'.heap.size w' w4) := B1.out.trans (B2.mono B1.out.size)
  clear B2 p3
  go_wp2_with fail
  refine (shardsOf_any b0 b1 b2 b3 n0 n1 n2 n3 d0 d1 d2 d3 _ l0 k0 k1 k2 k3).mono ?_
  rintro e w5 ⟨n, I, hn, rfl, hS, B2⟩
  replace B1 : Hid (Below w'.heap.size w' w5) := B1.out.trans (B2.mono B1.out.size)
  clear B2 k0 k1 k2 k3
  generalize w4.heap.size = g at *
  go_wp2
  go_loop [12] (fun i => ∃ k : Nat, k ≤ n ∧ i = .int .i64 k ∧ ∀ j, j < k → (I j == q) = false) (fun i => n - (intOf i).toNat)
  case atStart => exact ⟨0, Nat.zero_le _, rfl, fun j hj => absurd hj (Nat.not_lt_zero _)⟩
  case round =>
    obtain ⟨k, hk, rfl, hno⟩ := hrel
    have HN : Hid (∀ j, j < k → (I j == q) = false) := hno
    clear hno
    by_cases hlt : k < n
    · obtain ⟨s1, s2, s3, y0, y1, y2, y3⟩ := hS.2 k hlt
      clear y1 y2 y3
      by_cases hq : (I k == q) = true
      · go_wp2
        go_ret
        exact ⟨rfl, B1.out⟩
      · replace hq : (I k == q) = false := by simpa using hq
        go_wp2
        go_round
        case rel =>
          refine ⟨k + 1, by omega, by go_num, fun j hj => ?_⟩
          by_cases e : j = k
          · subst e; exact hq
          · exact HN.out j (by omega)
        case measure => simp [intOf]; omega
    · obtain rfl : k = n := by omega
      go_wp2_with fail
      have B6 := (Below.refl _ w5).alloc (Nat.le_refl _) (.cells #[.pointer none, .slice (some ⟨g, 0, none⟩) k k, .slice none 0 0] 33)
      refine (shard_absent w5.heap.size g k I q _ (by simp) (by simp) hn (hS.below B6) HN.out).mono ?_
      rintro e w6 ⟨rfl, B2⟩
      replace B1 : Hid (Below w'.heap.size w' w6) := B1.out.trans ((B6.trans (B2.mono (by simp))).mono B1.out.size)
      clear B2 B6 hS HN
      go_wp2
      go_ret
      exact ⟨rfl, B1.out.alloc B1.out.size _⟩

set_option maxHeartbeats 1000000 in
theorem law_large (a0 a1 a2 a3 : Option Addr) (n0 n1 n2 n3 c0 c1 c2 c3 : Nat) (q : Int) (w : World) (m0 : n0 ≤ maxLen) (m1 : n1 ≤ maxLen) (m2 : n2 ≤ maxLen) (m3 : n3 ≤ maxLen)
    (h1 : Strs w a1 n1) (h2 : Strs w a2 n2) (h3 : Strs w a3 n3) (hl : Hid (¬ (n0 ≤ 65536 ∧ n1 ≤ 65536 ∧ n2 ≤ 65536 ∧ n3 ≤ 65536))) :
    Calls Try.prog 4 #[.slice a0 n0 c0, .slice a1 n1 c1, .slice a2 n2 c2, .slice a3 n3 c3, .int .i64 q] w fun e w' => e = .returned (.bool true) ∧ Below w.heap.size w w' := by
  go_enter Try.func4, Try.ntmps4
  go_wp2_with fail
  refine (zzBytes_any a0 a1 a2 a3 n0 n1 n2 n3 c0 c1 c2 c3 q w m0 m1 m2 m3 h1 h2 h3).mono ?_
  rintro e w' ⟨⟨r, rfl⟩, rfl⟩
  unfold maxLen at m0 m1 m2 m3
  cases r
  · go_wp2
    go_ret
    exact ⟨rfl, Below.refl _ _⟩
  by_cases l0 : n0 ≤ 65536
  · by_cases l1 : n1 ≤ 65536
    · by_cases l2 : n2 ≤ 65536
      · have l3 : ¬ n3 ≤ 65536 := fun l3 => hl.out ⟨l0, l1, l2, l3⟩
        go_wp2
        go_ret
        exact ⟨rfl, Below.refl _ _⟩
      · go_wp2
        go_ret
        exact ⟨rfl, Below.refl _ _⟩
    · go_wp2
      go_ret
      exact ⟨rfl, Below.refl _ _⟩
  · go_wp2
    go_ret
    exact ⟨rfl, Below.refl _ _⟩

theorem walk (a0 a1 a2 a3 : Option Addr) (n0 n1 n2 n3 c0 c1 c2 c3 : Nat) (q : Int) (w : World) (m0 : n0 ≤ maxLen) (m1 : n1 ≤ maxLen) (m2 : n2 ≤ maxLen) (m3 : n3 ≤ maxLen)
    (z0 : a0 = none → n0 = 0) (z1 : a1 = none → n1 = 0) (z2 : a2 = none → n2 = 0) (z3 : a3 = none → n3 = 0)
    (h0 : Ints w a0 n0) (h1 : Strs w a1 n1) (h2 : Strs w a2 n2) (h3 : Strs w a3 n3) :
    Calls Try.prog 4 #[.slice a0 n0 c0, .slice a1 n1 c1, .slice a2 n2 c2, .slice a3 n3 c3, .int .i64 q] w fun e w' => e = .returned (.bool true) ∧ Below w.heap.size w w' := by
  by_cases hl : n0 ≤ 65536 ∧ n1 ≤ 65536 ∧ n2 ≤ 65536 ∧ n3 ≤ 65536
  · exact law_small a0 a1 a2 a3 n0 n1 n2 n3 c0 c1 c2 c3 q w hl.1 hl.2.1 hl.2.2.1 hl.2.2.2 z0 z1 z2 z3 h0 h1 h2 h3
  · exact law_large a0 a1 a2 a3 n0 n1 n2 n3 c0 c1 c2 c3 q w m0 m1 m2 m3 h1 h2 h3 hl
end Go.Proofs.Qxb6001492a
