/-
  Seat b6001555a: the walk of FnIsDigitsRefusesAStrayByte (5), out of the contracts.
-/
import Derived.Test.Qxb6001555aA
import Derived.Lib.AppendStr
import Derived.Laws.IdiomStrings
namespace Go.Proofs.Qxb6001555a
open Go.RowKit

theorem Try.info5 : (Try.prog.info? 5).map (fun i => (i.zero, i.size, i.bytes)) = some (some (.int .u8 0), 1, 1) := by kernel_rfl

/-- The bytes of s with c put in at i. -/
def strayed (s : ByteArray) (i : Nat) (c : Int) : List UInt8 := ((s.extract 0 i).data.toList ++ [UInt8.ofNat c.toNat]) ++ (s.extract i s.size).data.toList

theorem len_lo (s : ByteArray) (i : Nat) (hi : i ≤ s.size) : (s.extract 0 i).data.toList.length = i := by
  have h : (s.extract 0 i).size = i := by simp; omega
  simpa using h
theorem len_hi (s : ByteArray) (i : Nat) : (s.extract i s.size).data.toList.length = s.size - i := by
  simp

theorem strayed_length (s : ByteArray) (i : Nat) (c : Int) (hi : i ≤ s.size) : (strayed s i c).length = s.size + 1 := by
  unfold strayed
  rw [List.length_append, List.length_append, len_lo s i hi, len_hi s i]
  simp
  omega

theorem byte_toNat (c : Int) (c0 : 0 ≤ c) (c1 : c ≤ 255) : ((UInt8.ofNat c.toNat).toNat : Int) = c := by
  rw [UInt8.toNat_ofNat']
  omega

theorem strayed_cells (s : ByteArray) (i : Nat) (c : Int) (c0 : 0 ≤ c) (c1 : c ≤ 255) :
    (Lib.strCells (s.extract 0 i) ++ [Value.int .u8 c]) ++ Lib.strCells (s.extract i s.size) = (strayed s i c).map fun b => Value.int .u8 (b.toNat : Int) := by
  unfold strayed Lib.strCells
  rw [List.map_append, List.map_append, List.map_cons, List.map_nil, byte_toNat c c0 c1]

theorem at_mid {α : Type} (a b : List α) (x : α) (i : Nat) (hl : a.length = i) (h : i < ((a ++ [x]) ++ b).length) : ((a ++ [x]) ++ b)[i] = x := by
  subst hl
  simp

theorem strayed_at (s : ByteArray) (i : Nat) (c : Int) (hi : i ≤ s.size) (h : i < (⟨(strayed s i c).toArray⟩ : ByteArray).size) : (⟨(strayed s i c).toArray⟩ : ByteArray)[i] = UInt8.ofNat c.toNat := by
  show (strayed s i c).toArray[i] = _
  rw [List.getElem_toArray]
  exact at_mid _ _ _ i (len_lo s i hi) _

theorem strayed_size (s : ByteArray) (i : Nat) (c : Int) (hi : i ≤ s.size) : (⟨(strayed s i c).toArray⟩ : ByteArray).size = s.size + 1 := by
  show (strayed s i c).toArray.size = _
  rw [List.size_toArray, strayed_length s i c hi]

/-- The text with the stray byte is refused. -/
theorem strayed_no (s : ByteArray) (i : Nat) (c : Int) (w : World) (hs : s.size ≤ 524288) (hi : i ≤ s.size) (c0 : 0 ≤ c) (c1 : c ≤ 255) (hc : c < 48 ∨ 57 < c) :
    Calls Try.prog 7 #[.string ⟨(strayed s i c).toArray⟩] w fun e w' => e = .returned (.bool false) ∧ w' = w := by
  have hsz := strayed_size s i c hi
  have hlt : i < (⟨(strayed s i c).toArray⟩ : ByteArray).size := by omega
  exact zzIsDigits_no _ w (by unfold maxLen; omega) i hlt (by rw [strayed_at s i c hi hlt, byte_toNat c c0 c1]; exact hc)

theorem conv_of {W : World} {B : Nat} {v : Value} (s : ByteArray) (i : Nat) (c : Int) (hi : i ≤ s.size) (c0 : 0 ≤ c) (c1 : c ≤ 255)
    (h : W.ownsRow B 5 1 v (s.size + 1) ((Lib.strCells (s.extract 0 i) ++ [Value.int .u8 c]) ++ Lib.strCells (s.extract i s.size))) :
    ∃ g cap, v = .slice (some ⟨g, 0, none⟩) (s.size + 1) cap ∧ (convert 25 9 (.slice (some ⟨g, 0, none⟩) (s.size + 1) cap)).run Try.prog W = .ok (.string ⟨(strayed s i c).toArray⟩) W := by
  rcases h.2 with ⟨_, h0⟩ | ⟨g, cap, cur, rfl, _, _, _, _, _, _⟩
  · omega
  · refine ⟨g, cap, rfl, ?_⟩
    have hc := h.cells (g := g) rfl
    rw [strayed_cells s i c c0 c1] at hc
    have hr := run_convert_bytes_back (P := Try.prog) W 25 9 5 ⟨g, 0, none⟩ cap (strayed s i c) Try.underlying25 Try.underlying5 Try.underlying9 (fun j hj => hc j _ (by simp [hj]))
    rw [strayed_length s i c hi] at hr
    exact hr

theorem own_two {W : World} {B : Nat} {v : Value} (s : ByteArray) (i : Nat) (hi : i ≤ s.size) (h : W.ownsRow B 5 1 v (0 + (s.extract 0 i).size) ([] ++ Lib.strCells (s.extract 0 i))) :
    W.ownsRow B 5 1 v i (Lib.strCells (s.extract 0 i)) := by
  have e1 : (s.extract 0 i).size = i := by simp; omega
  rw [e1, Nat.zero_add, List.nil_append] at h
  exact h

theorem own_four {W : World} {B : Nat} {v : Value} {xs : List Value} (s : ByteArray) (i : Nat) (hi : i ≤ s.size) (h : W.ownsRow B 5 1 v (i + 1 + (s.extract i s.size).size) xs) :
    W.ownsRow B 5 1 v (s.size + 1) xs := by
  have e1 : (s.extract i s.size).size = s.size - i := by simp
  rw [e1, show i + 1 + (s.size - i) = s.size + 1 by omega] at h
  exact h

theorem Below.grown_own {B : Nat} {a w w' : World} {v : Value} {e : TypeId} {size n : Nat} {xs : List Value} (h : Below B a w) (hg : w.grownBy w' v.ownBlock) (ho : w.ownsRow B e size v n xs) (hB : B ≤ w.heap.size) : Below B a w' :=
  h.grown hg hB fun k hk => (ho.lt k hk).1

set_option maxHeartbeats 400000 in
theorem law_main (s : ByteArray) (i : Nat) (c : Int) (w : World) (hs : s.size ≤ 524288) (hi : i ≤ s.size) (c0 : 0 ≤ c) (c1 : c ≤ 255) (hc : c < 48 ∨ 57 < c) :
    Calls Try.prog 5 #[.string s, .int .i64 i, .int .u8 c] w fun e w' => e = .returned (.bool true) ∧ Below w.heap.size w w' := by
  obtain ⟨i0, hi0, hz0, hz1, hz2⟩ := info_parts Try.info5
  have e1 : (s.extract 0 i).size ≤ 524288 := by simp; omega
  have e2 : (s.extract i s.size).size ≤ 524288 := by simp; omega
  have HC : Hid (c < 48 ∨ 57 < c) := hc
  rcases hc with hc | hc
  all_goals
    go_enter Try.func5, Try.ntmps5
    go_wp2_with fail
    refine (zzBytes_any s i c w (by unfold maxLen; omega)).mono ?_
    rintro e w' ⟨⟨r, rfl⟩, rfl⟩
    cases r
    · go_wp2
      go_ret
      exact ⟨rfl, Below.refl _ _⟩
    go_wp2_with (first
      | (at_make; go_must (refine wpList_make_own _ rfl (.const (.int .i64 0)) (.tmp 32) 25 rfl w'.heap.size 5 i0 (.int .u8 0) 1 Try.underlying25 hi0 hz0 hz1 .i64 .i64 _ (s.size + 1) rfl rfl (by omega) (by rw [hz2]; omega) (by unfold maxLen; omega) (Nat.le_refl _) ?_); intro w1 own1 gr1; have B1 := (Below.refl w'.heap.size w').grown gr1 (Nat.le_refl _) (fun k hk => by cases hk))
      | (at_builtin; refine Lib.wpList_append_own_string _ rfl (.tmp 34) (.tmp 37) 25 9 rfl w'.heap.size 5 i0 Try.underlying25 Try.underlying9 hi0 hz0 hz1 hz2 _ _ _ rfl own1 (s.extract 0 i) rfl (by unfold maxLen; omega) (by omega) B1.size ?_; intro v2 w2 o2 gr2 _; have own2 := own_two s i hi o2; have B2 := Below.grown_own B1 gr2 own1 B1.size; clear o2 own1 gr1 gr2 B1)
      | (at_builtin; refine wpList_append_own _ rfl (.tmp 39) (.tmp 41) 25 rfl w'.heap.size 5 i0 (.int .u8 0) 1 1 Try.underlying25 hi0 hz0 hz1 hz2 rfl (by decide) _ _ _ rfl (own2.alloc _) ⟨w2.heap.size, 0, none⟩ 1 1 [.int .u8 c] rfl rfl (cell_one_new _ _ _) (by intro u hu; simp at hu; subst hu; rfl) (by unfold maxLen; omega) (by omega) (by have := B2.size; simp; omega) ?_; intro v3 w3 own3 gr3 _; have B3 := Below.grown_own (B2.alloc B2.size _) gr3 (own2.alloc _) (by have := B2.size; simp; omega); clear own2 gr3 B2)
      | (at_builtin; refine Lib.wpList_append_own_string _ rfl (.tmp 43) (.tmp 46) 25 9 rfl w'.heap.size 5 i0 Try.underlying25 Try.underlying9 hi0 hz0 hz1 hz2 _ _ _ rfl own3 (s.extract i s.size) rfl (by unfold maxLen; omega) (by omega) B3.size ?_; intro v4 w4 o4 gr4 _; have own4 := own_four s i hi o4; have B4 := Below.grown_own B3 gr4 own3 B3.size; clear o4 own3 gr4 B3; obtain ⟨g, cp, rfl, hcv⟩ := conv_of s i c hi c0 c1 own4; clear own4))
    refine (strayed_no s i c _ hs hi c0 c1 HC.out).mono ?_
    rintro e w5 ⟨rfl, rfl⟩
    go_wp2
    go_ret
    exact ⟨rfl, B4⟩

/-- Every other input is let by. -/
theorem law_else (s : ByteArray) (i : Int) (c : Int) (w : World) (hs : s.size ≤ maxLen) (h : 524288 < s.size ∨ i < 0 ∨ (s.size : Int) < i ∨ (48 ≤ c ∧ c ≤ 57)) :
    Calls Try.prog 5 #[.string s, .int .i64 i, .int .u8 c] w fun e w' => e = .returned (.bool true) ∧ Below w.heap.size w w' := by
  have HS : Hid (s.size ≤ maxLen) := hs
  unfold maxLen at hs
  by_cases k1 : 524288 < s.size
  · go_enter Try.func5, Try.ntmps5
    go_wp2_with fail
    refine (zzBytes_any s i c w HS.out).mono ?_
    rintro e w' ⟨⟨r, rfl⟩, rfl⟩
    cases r
    all_goals
      go_wp2
      go_ret
      exact ⟨rfl, Below.refl _ _⟩
  · by_cases k2 : 48 ≤ c ∧ c ≤ 57
    · obtain ⟨k2, k3⟩ := k2
      go_enter Try.func5, Try.ntmps5
      go_wp2_with fail
      refine (zzBytes_any s i c w HS.out).mono ?_
      rintro e w' ⟨⟨r, rfl⟩, rfl⟩
      cases r
      all_goals
        go_wp2
        go_ret
        exact ⟨rfl, Below.refl _ _⟩
    · replace h : i < 0 ∨ (s.size : Int) < i := by omega
      have hc : c < 48 ∨ 57 < c := by omega
      clear k2
      rcases hc with hc | hc
      all_goals
        rcases h with h | h
        all_goals
          go_enter Try.func5, Try.ntmps5
          go_wp2_with fail
          refine (zzBytes_any s i c w HS.out).mono ?_
          rintro e w' ⟨⟨r, rfl⟩, rfl⟩
          cases r
          all_goals
            go_wp2
            go_ret
            exact ⟨rfl, Below.refl _ _⟩

theorem walk (s : ByteArray) (i : Int) (c : Int) (w : World) (hs : s.size ≤ maxLen) (c0 : 0 ≤ c) (c1 : c ≤ 255) :
    Calls Try.prog 5 #[.string s, .int .i64 i, .int .u8 c] w fun e w' => e = .returned (.bool true) ∧ Below w.heap.size w w' := by
  by_cases h : 524288 < s.size ∨ i < 0 ∨ (s.size : Int) < i ∨ (48 ≤ c ∧ c ≤ 57)
  · exact law_else s i c w hs h
  · obtain ⟨k, rfl⟩ : ∃ k : Nat, i = (k : Int) := ⟨i.toNat, by omega⟩
    exact law_main s k c w (by omega) (by omega) c0 c1 (by omega)
end Go.Proofs.Qxb6001555a
