/-
  Seat b6002369aF: the walk of FnRegexpRoomSplitTakeAgrees (4), out of the contracts, for whatever F stands in fmt's place.
-/
import Derived.Test.Qxb6002369aFmtB
namespace Go.Proofs.Qxb6002369aFmt
open Go.RowKit Go.Extern.Stop Go.Stop Go.Extern

theorem ans {F : Interp} {w w' : World} {row : Option Nat} (hF : F.answers w.tape) (hg : w.grownBy w' row) : F.answers w'.tape := by
  rw [hg.tape]; exact hF

set_option maxHeartbeats 1000000 in
theorem law_main (F : Interp) (L f a b : Int) (w : World) (hF : F.answers w.tape) (l0 : 0 ≤ L) (l1 : L ≤ 268435456) (f0 : 0 ≤ f) (f1 : f ≤ 268435456) (a0 : 0 ≤ a) (a1 : a ≤ 268435456) (b0 : 0 ≤ b) (b1 : b ≤ 268435456) :
    Calls Tryf.prog 4 #[.int .i64 L, .int .i64 f, .int .i64 a, .int .i64 b] w fun e w' => e = .returned (.bool true) ∧ Below w.heap.size w w' := by
  go_enter Tryf.func4, Tryf.ntmps4
  go_wp2_with fail
  refine (new_any L _).mono ?_
  rintro e w1 ⟨r, rfl, hr, R1, G1⟩
  go_wp2_with fail
  refine (new_any L _).mono ?_
  rintro e w2 ⟨s, rfl, hs, R2, G2⟩
  have hrs : r < s := Nat.lt_of_lt_of_le R1.lt hs
  have B2 : Hid (Below w.heap.size w w2) := ((Below.refl _ w).grown G1 (Nat.le_refl _) (fun k hk => by cases hk)).grown G2 G1.size (fun k hk => by cases hk)
  replace hF := ans (ans hF G1) G2
  replace R1 := R1.kept G2 (by simp)
  replace hs : w.heap.size ≤ s := by omega
  clear G1 G2
  go_wp2_with fail
  refine (zzTake_any F r L 0 f _ hF R1 l0 l1 (by omega) (by omega) f0 (by omega)).mono ?_
  rintro e w3 ⟨v1, rfl, hF3, T1, G⟩
  have B3 : Hid (Below w.heap.size w w3) := B2.out.grown G B2.out.size (fun k hk => by cases hk; exact hr)
  replace R2 := R2.kept G (by simp; omega)
  clear hF R1 G B2
  go_wp2_with fail
  refine (zzTake_any F s L 0 f _ hF3 R2 l0 l1 (by omega) (by omega) f0 (by omega)).mono ?_
  rintro e w4 ⟨v2, rfl, hF4, T2, G⟩
  have B4 : Hid (Below w.heap.size w w4) := B3.out.grown G B3.out.size (fun k hk => by cases hk; exact hs)
  clear hF3 R2 B3
  obtain ⟨t, t0, t1, R1, R2, hv⟩ : ∃ t, 0 ≤ t ∧ t ≤ L ∧ Room w4 r L t ∧ Room w4 s L t ∧ ((v1 = .nilIface ∧ v2 = .nilIface) ∨ ∃ p q, v1 = .iface 38 (.pointer p) ∧ v2 = .iface 38 (.pointer q)) := by
    rcases T1 with ⟨g1, e1, k1⟩ | ⟨g1, ⟨p, e1⟩, k1⟩
    · rcases T2 with ⟨g2, e2, k2⟩ | ⟨g2, ⟨p, e2⟩, k2⟩
      · exact ⟨0 + f, by omega, by omega, k1.kept G (by simp; omega), k2, .inl ⟨e1, e2⟩⟩
      · omega
    · rcases T2 with ⟨g2, e2, k2⟩ | ⟨g2, ⟨q, e2⟩, k2⟩
      · omega
      · exact ⟨0, by omega, by omega, k1.kept G (by simp; omega), k2, .inr ⟨p, q, e1, e2⟩⟩
  clear T1 T2 G
  have HD : ∀ W, W = w4.drew → F.answers W.tape ∧ Room W r L t ∧ Room W s L t ∧ Hid (Below w.heap.size w W) := by
    rintro _ rfl
    exact ⟨hF4, R1, R2, B4.out.drew⟩
  clear R1 R2 hF4 B4
  rcases hv with ⟨rfl, rfl⟩ | ⟨p, q, rfl, rfl⟩
  all_goals
    go_wp2_with fail
    go_region
    obtain ⟨hF5, R1, R2, B5⟩ := HD _ rfl
    clear HD
    generalize w4.drew = w5 at *
    go_wp2_with fail
    refine (taken_any r L t _ R1).mono ?_
    rintro e w' ⟨rfl, rfl⟩
    go_wp2_with fail
    refine (taken_any s L t _ R2).mono ?_
    rintro e w' ⟨rfl, rfl⟩
    go_wp2_with fail
    refine (zzTake_any F r L t (a + b) _ hF5 R1 l0 l1 t0 t1 (by omega) (by omega)).mono ?_
    rintro e w6 ⟨v3, rfl, hF6, T3, G⟩
    have B6 : Hid (Below w.heap.size w w6) := B5.out.grown G B5.out.size (fun k hk => by cases hk; exact hr)
    replace R2 := R2.kept G (by simp; omega)
    clear hF5 R1 G B5
    go_wp2_with fail
    refine (zzTake_any F s L t a _ hF6 R2 l0 l1 t0 t1 (by omega) (by omega)).mono ?_
    rintro e w7 ⟨v4, rfl, hF7, T4, G⟩
    have B7 : Hid (Below w.heap.size w w7) := B6.out.grown G B6.out.size (fun k hk => by cases hk; exact hs)
    have K3 : Hid ((a + b ≤ L - t ∧ v3 = .nilIface ∧ Room w7 r L (t + a + b)) ∨ (L - t < a + b ∧ (∃ p, v3 = .iface 38 (.pointer p)) ∧ Room w7 r L t)) := by
      rcases T3 with ⟨g, e, k⟩ | ⟨g, e, k⟩
      · exact .inl ⟨g, e, by rw [Int.add_assoc]; exact k.kept G (by simp; omega)⟩
      · exact .inr ⟨g, e, k.kept G (by simp; omega)⟩
    obtain ⟨u, u0, u1, R3, K4⟩ : ∃ u, 0 ≤ u ∧ u ≤ L ∧ Room w7 s L u ∧ Hid ((a ≤ L - t ∧ v4 = .nilIface ∧ u = t + a) ∨ (L - t < a ∧ (∃ p, v4 = .iface 38 (.pointer p)))) := by
      rcases T4 with ⟨g, e, k⟩ | ⟨g, e, k⟩
      · exact ⟨t + a, by omega, by omega, k, .inl ⟨g, e, rfl⟩⟩
      · exact ⟨t, t0, t1, k, .inr ⟨g, e⟩⟩
    clear hF6 R2 G B6 T3 T4
    go_wp2_with fail
    refine (zzTake_any F s L u b _ hF7 R3 l0 l1 u0 u1 (by omega) (by omega)).mono ?_
    rintro e w8 ⟨v5, rfl, hF8, T5, G⟩
    have B8 : Hid (Below w.heap.size w w8) := B7.out.grown G B7.out.size (fun k hk => by cases hk; exact hs)
    have K5 : (v3 = .nilIface ∧ v4 = .nilIface ∧ v5 = .nilIface ∧ Room w8 r L (t + a + b) ∧ Room w8 s L (t + a + b)) ∨ (∃ p q, v3 = .iface 38 (.pointer p) ∧ v4 = .nilIface ∧ v5 = .iface 38 (.pointer q) ∧ Room w8 r L t) ∨ (∃ p q, v3 = .iface 38 (.pointer p) ∧ v4 = .iface 38 (.pointer q) ∧ Room w8 r L t) := by
      rcases K3.out with ⟨g3, e3, k3⟩ | ⟨g3, ⟨p3, e3⟩, k3⟩
      · rcases K4.out with ⟨g4, e4, rfl⟩ | ⟨g4, ⟨p4, e4⟩⟩
        · rcases T5 with ⟨g5, e5, k5⟩ | ⟨g5, ⟨p5, e5⟩, k5⟩
          · exact .inl ⟨e3, e4, e5, k3.kept G (by simp; omega), k5⟩
          · omega
        · omega
      · rcases K4.out with ⟨g4, e4, rfl⟩ | ⟨g4, ⟨p4, e4⟩⟩
        · rcases T5 with ⟨g5, e5, k5⟩ | ⟨g5, ⟨p5, e5⟩, k5⟩
          · omega
          · exact .inr (.inl ⟨p3, p5, e3, e4, e5, k3.kept G (by simp; omega)⟩)
        · exact .inr (.inr ⟨p3, p4, e3, e4, k3.kept G (by simp; omega)⟩)
    clear K3 K4 T5 G R3 B7 hF7
    rcases K5 with ⟨rfl, rfl, rfl, R1, R2⟩ | ⟨p3, p5, rfl, rfl, rfl, R1⟩ | ⟨p3, p4, rfl, rfl, R1⟩
    · go_wp2_with (first | (go_at_call_of 8 r; refine (taken_any r L (t + a + b) _ R1).mono ?_; rintro e w' ⟨rfl, rfl⟩) | (go_at_call_of 8 s; refine (taken_any s L (t + a + b) _ R2).mono ?_; rintro e w' ⟨rfl, rfl⟩))
      go_ret
      exact ⟨rfl, B8.out⟩
    · go_wp2_with (go_at_call 8; refine (taken_any r L t _ R1).mono ?_; rintro e w' ⟨rfl, rfl⟩)
      go_ret
      exact ⟨rfl, B8.out⟩
    · go_wp2_with (go_at_call 8; refine (taken_any r L t _ R1).mono ?_; rintro e w' ⟨rfl, rfl⟩)
      go_ret
      exact ⟨rfl, B8.out⟩

theorem walk (F : Interp) (L f a b : Int) (w : World) (hF : F.answers w.tape) :
    Calls Tryf.prog 4 #[.int .i64 L, .int .i64 f, .int .i64 a, .int .i64 b] w fun e w' => e = .returned (.bool true) ∧ Below w.heap.size w w' := by
  by_cases k0 : 0 ≤ L
  rotate_left
  · clear hF
    go_enter Tryf.func4, Tryf.ntmps4
    go_wp2
    go_ret
    exact ⟨rfl, Below.refl _ _⟩
  by_cases k1 : L ≤ 268435456
  rotate_left
  · clear hF
    go_enter Tryf.func4, Tryf.ntmps4
    go_wp2
    go_ret
    exact ⟨rfl, Below.refl _ _⟩
  by_cases k2 : 0 ≤ f
  rotate_left
  · clear hF
    go_enter Tryf.func4, Tryf.ntmps4
    go_wp2
    go_ret
    exact ⟨rfl, Below.refl _ _⟩
  by_cases k3 : f ≤ 268435456
  rotate_left
  · clear hF
    go_enter Tryf.func4, Tryf.ntmps4
    go_wp2
    go_ret
    exact ⟨rfl, Below.refl _ _⟩
  by_cases k4 : 0 ≤ a
  rotate_left
  · clear hF
    go_enter Tryf.func4, Tryf.ntmps4
    go_wp2
    go_ret
    exact ⟨rfl, Below.refl _ _⟩
  by_cases k5 : a ≤ 268435456
  rotate_left
  · clear hF
    go_enter Tryf.func4, Tryf.ntmps4
    go_wp2
    go_ret
    exact ⟨rfl, Below.refl _ _⟩
  by_cases k6 : 0 ≤ b
  rotate_left
  · clear hF
    go_enter Tryf.func4, Tryf.ntmps4
    go_wp2
    go_ret
    exact ⟨rfl, Below.refl _ _⟩
  by_cases k7 : b ≤ 268435456
  rotate_left
  · clear hF
    go_enter Tryf.func4, Tryf.ntmps4
    go_wp2
    go_ret
    exact ⟨rfl, Below.refl _ _⟩
  exact law_main F L f a b w hF k0 k1 k2 k3 k4 k5 k6 k7
end Go.Proofs.Qxb6002369aFmt
