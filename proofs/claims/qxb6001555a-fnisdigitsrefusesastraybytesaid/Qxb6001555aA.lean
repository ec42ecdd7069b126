/-
  Seat b6001555a: the contracts of zzBytes (9), isDigits (10) and ZZisDigits (7).
-/
import Derived.Test.Qxb6001555aRows
import Derived.WalkKit
import Derived.WalkSpells
import Derived.WalkLawsBesides
namespace Go.Proofs.Qxb6001555a
open Go.RowKit

/-- 'It returned some bool' (behind a name, so that the walk's simp leaves it whole). -/
def IsB (e : Ending) : Prop := ∃ r : Bool, e = .returned (.bool r)
theorem isB_mk (r : Bool) : IsB (.returned (.bool r)) := ⟨r, rfl⟩

theorem zzBytes_any (s : ByteArray) (i c : Int) (w : World) (hs : s.size ≤ maxLen) :
    Calls Try.prog 9 #[.string s, .int .i64 i, .int .u8 c] w fun e w' => IsB e ∧ w' = w := by
  unfold maxLen at hs
  go_enter Try.func9, Try.ntmps9
  go_wp2
  all_goals
    go_ret
    exact ⟨isB_mk _, rfl⟩

theorem isDigits_no (s : ByteArray) (w : World) (hs : s.size ≤ maxLen) (j : Nat) (hj : j < s.size) (hd : (s[j].toNat : Int) < 48 ∨ 57 < (s[j].toNat : Int)) :
    Calls Try.prog 10 #[.string s] w fun e w' => e = .returned (.bool false) ∧ w' = w := by
  unfold maxLen at hs
  have HD : Hid ((s[j].toNat : Int) < 48 ∨ 57 < (s[j].toNat : Int)) := hd
  clear hd
  go_enter Try.func10, Try.ntmps10
  go_wp2
  · go_ret
    exact ⟨rfl, rfl⟩
  go_loop [3] (fun i => ∃ k : Nat, k ≤ j ∧ i = .int .i64 k) (fun i => s.size - (intOf i).toNat)
  case atStart => exact ⟨0, Nat.zero_le _, rfl⟩
  case round =>
    obtain ⟨k, hk, rfl⟩ := hrel
    have hlt : k < s.size := by omega
    by_cases e : k = j
    · subst e
      rcases HD.out with hd | hd
      · go_wp2
        go_ret
        exact ⟨rfl, rfl⟩
      · have hn : ¬ (s[k].toNat : Int) < 48 := by omega
        go_wp2
        go_ret
        exact ⟨rfl, rfl⟩
    · have hk1 : k + 1 ≤ j := by omega
      clear e
      go_wp2
      · go_ret
        exact ⟨rfl, rfl⟩
      · go_round
        case rel => exact ⟨k + 1, hk1, by go_num⟩
        case measure => simp [intOf]; omega
      · go_ret
        exact ⟨rfl, rfl⟩

theorem zzIsDigits_no (s : ByteArray) (w : World) (hs : s.size ≤ maxLen) (j : Nat) (hj : j < s.size) (hd : (s[j].toNat : Int) < 48 ∨ 57 < (s[j].toNat : Int)) :
    Calls Try.prog 7 #[.string s] w fun e w' => e = .returned (.bool false) ∧ w' = w := by
  have HD : Hid ((s[j].toNat : Int) < 48 ∨ 57 < (s[j].toNat : Int)) := hd
  clear hd
  go_enter Try.func7, Try.ntmps7
  go_wp2_with fail
  refine (isDigits_no s _ hs j hj HD.out).mono ?_
  rintro e w' ⟨rfl, rfl⟩
  go_wp2
  go_ret
  exact ⟨rfl, rfl⟩
end Go.Proofs.Qxb6001555a
