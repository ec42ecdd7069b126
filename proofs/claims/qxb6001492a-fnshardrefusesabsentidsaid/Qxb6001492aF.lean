/-
  Seat b6001492a: the row of 'FnShardRefusesAbsentID': from the walk to the given statement. The frame is the guide's template (five parameters: four slices and an int).
-/
import Derived.Test.Qxb6001492aE
import Derived.ProofKit
import Derived.OpenShut
import Derived.ShutString
import Derived.SliceStrings
import Derived.ChangeOld
namespace Go.Proofs.Qxb6001492a.fnShardRefusesAbsentID
open Go.ChangeShapes Go.WideShapes Go.ChangeAt Go.RowKit

theorem own : ownKnob Try.prog.godebug = none := by kernel_rfl
theorem laidOut : laidOutB Try.prog = true := by kernel_rfl

theorem addr_at {a : Addr} {b off : Nat} (h : a = ⟨b, off, none⟩) (k : Nat) : a.add k = ⟨b, off + k, none⟩ := by
  subst h
  unfold Addr.add
  split <;> simp_all

theorem ints_of {w : World} {x : Addr} {len : Nat} {zs : List Int} (hz : len ≤ zs.length) (hc : ∀ i, i < zs.length → w.cell? (x.add i) = some (.int .i64 (zs.getD i 0))) : Ints w (some x) len := by
  by_cases h0 : len = 0
  · exact .inl h0
  · have h1 : w.cell? x = some (.int .i64 (zs.getD 0 0)) := by simpa [Addr.add] using hc 0 (by omega)
    have hs : x = ⟨x.block, x.off, none⟩ := by
      have := World.cell?_spot h1
      cases x
      simp_all
    exact .inr ⟨x.block, x.off, fun i => zs.getD i 0, by rw [← hs], World.block_lt_of_cell? w x h1, fun k hk => by rw [← addr_at hs]; exact hc k (by omega)⟩

theorem strs_of {w : World} {x : Addr} {len : Nat} {ss : List ByteArray} (hz : len ≤ ss.length) (hc : ∀ i, i < ss.length → w.cell? (x.add i) = some (.string (ss.getD i ByteArray.empty))) (hm : ∀ s ∈ ss, s.size ≤ maxLen) : Strs w (some x) len := by
  by_cases h0 : len = 0
  · exact .inl h0
  · have h1 : w.cell? x = some (.string (ss.getD 0 ByteArray.empty)) := by simpa [Addr.add] using hc 0 (by omega)
    have hs : x = ⟨x.block, x.off, none⟩ := by
      have := World.cell?_spot h1
      cases x
      simp_all
    refine .inr ⟨x.block, x.off, fun i => ss.getD i ByteArray.empty, by rw [← hs], World.block_lt_of_cell? w x h1, fun k hk => ⟨by rw [← addr_at hs]; exact hc k (by omega), ?_⟩⟩
    have hk' : k < ss.length := by omega
    show (ss.getD k ByteArray.empty).size ≤ maxLen
    rw [List.getD_eq_getElem?_getD, List.getElem?_eq_getElem hk']
    exact hm _ (List.getElem_mem hk')

/-- What the walk is told of a slice of strings that came in. -/
theorem open_strs_arg {H : Type} {enc : TypeId × Value → H} {W : World} {base : Nat} {held : Bool} {a : Option Addr} {len cap : Nat} {d : DataW H} {p : List MemPlace}
    (h : DataW.Trod enc Try.prog W base (fun _ => true) held 23 (.slice a len cap) d p) : len ≤ maxLen ∧ (a = none → len = 0) ∧ Strs W a len := by
  obtain ⟨fuel, hf⟩ := h
  rcases open_strings Try.underlying23 Try.underlying9 (by kernel_rfl) hf with ⟨hcs, _⟩ | ⟨x, l, c, ss, hcs, _, hl, hm, hz, _, hcell, hws⟩
  · simp [Value.cells] at hcs
    obtain ⟨rfl, rfl, rfl⟩ := hcs
    exact ⟨Nat.zero_le _, fun _ => rfl, .inl rfl⟩
  · simp [Value.cells] at hcs
    obtain ⟨rfl, rfl, rfl⟩ := hcs
    simp only [if_true] at hz
    exact ⟨Nat.le_trans hl hm, fun e => (Option.some_ne_none _ e).elim, strs_of (by omega) hcell hws⟩

/-- .. and of a slice of ints. -/
theorem open_ints_arg {H : Type} {enc : TypeId × Value → H} {W : World} {base : Nat} {held : Bool} {a : Option Addr} {len cap : Nat} {d : DataW H} {p : List MemPlace}
    (h : DataW.Trod enc Try.prog W base (fun _ => true) held 22 (.slice a len cap) d p) : len ≤ maxLen ∧ (a = none → len = 0) ∧ Ints W a len := by
  obtain ⟨fuel, hf⟩ := h
  rcases open_ints Try.underlying22 Try.underlying3 (by kernel_rfl) hf with ⟨hcs, _⟩ | ⟨x, l, c, zs, hcs, _, hl, hm, hz, _, hcell, hwz⟩
  · simp [Value.cells] at hcs
    obtain ⟨rfl, rfl, rfl⟩ := hcs
    exact ⟨Nat.zero_le _, fun _ => rfl, .inl rfl⟩
  · simp [Value.cells] at hcs
    obtain ⟨rfl, rfl, rfl⟩ := hcs
    simp only [if_true] at hz
    exact ⟨Nat.le_trans hl hm, fun e => (Option.some_ne_none _ e).elim, ints_of (by omega) hcell⟩

set_option maxRecDepth 100000 in
theorem lifted (os : Os) (started : os.Started) (H : Type) (enc : TypeId × Value → H) :
    ReturnsInHanded {} Try.checked os 4 .any (Rows.fnShardRefusesAbsentIDSpec.pre6 enc Try.prog Try.f4 Rows.fnShardRefusesAbsentIDRow.domain false) (Rows.fnShardRefusesAbsentIDSpec.post enc Try.prog Try.f4 false true false false) := by
  refine returnsInHanded_of_change (C := Try.checked) own started (by kernel_rfl) Try.func4
    (ChangeSpec.witness6 (enc := enc) (C := Try.checked) false ⟨#[], #[.slice none 0 0, .slice none 0 0, .slice none 0 0, .slice none 0 0, .int .i64 0], []⟩ 8 (by kernel_rfl) (by kernel_rfl) (by kernel_rfl) (by kernel_rfl)) ?_
  intro W base args ds gs before hval0 hW hcnd _
  have hval : ∀ (j : Nat) t v, Try.f4.params[j]? = some t → args[j]? = some v → Value.okWide Try.prog W .any base t v := hval0
  have hW' := hW
  obtain ⟨p, q, hA0, hV, rfl, hfz, hnd⟩ := hW
  have hA : DataW.TrodAll enc Try.prog W 0 (fun _ => true) true Try.f4.params.toList args.toList ds p := hA0
  rw [Try.params4] at hA hval
  obtain ⟨v0, vs0, d0, ds0, p0, q0, hargs, rfl, rfl, h0, r0⟩ := trodAll_cons hA
  obtain ⟨v1, vs1, d1, ds1, p1, q1, rfl, rfl, rfl, h1, r1⟩ := trodAll_cons r0
  obtain ⟨v2, vs2, d2, ds2, p2, q2, rfl, rfl, rfl, h2, r2⟩ := trodAll_cons r1
  obtain ⟨v3, vs3, d3, ds3, p3, q3, rfl, rfl, rfl, h3, r3⟩ := trodAll_cons r2
  obtain ⟨v4, vs4, d4, ds4, p4, q4, rfl, rfl, rfl, h4, r4⟩ := trodAll_cons r3
  obtain ⟨rfl, rfl, rfl⟩ := trodAll_nil r4
  obtain rfl : args = #[v0, v1, v2, v3, v4] := by cases args; simp_all
  obtain ⟨rfl, rfl⟩ := trodVars_none hV
  obtain ⟨a0, n0, c0, rfl⟩ := okWide_slice Try.underlying22 (hval 0 22 v0 rfl rfl)
  obtain ⟨a1, n1, c1, rfl⟩ := okWide_slice Try.underlying23 (hval 1 23 v1 rfl rfl)
  obtain ⟨a2, n2, c2, rfl⟩ := okWide_slice Try.underlying23 (hval 2 23 v2 rfl rfl)
  obtain ⟨a3, n3, c3, rfl⟩ := okWide_slice Try.underlying23 (hval 3 23 v3 rfl rfl)
  have lt0 : ∀ x ∈ p0, x.block < W.heap.size := by obtain ⟨m, hm⟩ := h0; exact DataW.trod_lt m _ _ _ hm
  have lt1 : ∀ x ∈ p1, x.block < W.heap.size := by obtain ⟨m, hm⟩ := h1; exact DataW.trod_lt m _ _ _ hm
  have lt2 : ∀ x ∈ p2, x.block < W.heap.size := by obtain ⟨m, hm⟩ := h2; exact DataW.trod_lt m _ _ _ hm
  have lt3 : ∀ x ∈ p3, x.block < W.heap.size := by obtain ⟨m, hm⟩ := h3; exact DataW.trod_lt m _ _ _ hm
  obtain ⟨m0, z0, w0⟩ := open_ints_arg h0
  obtain ⟨m1, z1, w1⟩ := open_strs_arg h1
  obtain ⟨m2, z2, w2⟩ := open_strs_arg h2
  obtain ⟨m3, z3, w3⟩ := open_strs_arg h3
  obtain ⟨a4, rfl, rfl, rfl, w4⟩ := open_int Try.underlying3 (hval 4 3 v4 rfl rfl) h4
  clear hA0 hval0
  refine (walk a0 a1 a2 a3 n0 n1 n2 n3 c0 c1 c2 c3 a4 W m0 m1 m2 m3 z0 z1 z2 z3 w0 w1 w2 w3).mono fun e W' ⟨he, bel⟩ => ?_
  subst he
  exact ⟨_, rfl, _, _, _, [], _, [], hW', trodAll_mk1 (shut_bool Try.underlying4 _),
    (trodAll_cons_mk (Below.trod laidOut (by kernel_rfl) (of_decide_eq_true (by kernel_rfl)) h0 bel lt0)
      (trodAll_cons_mk (Below.trod laidOut (by kernel_rfl) (of_decide_eq_true (by kernel_rfl)) h1 bel lt1)
        (trodAll_cons_mk (Below.trod laidOut (by kernel_rfl) (of_decide_eq_true (by kernel_rfl)) h2 bel lt2)
          (trodAll_cons_mk (Below.trod laidOut (by kernel_rfl) (of_decide_eq_true (by kernel_rfl)) h3 bel lt3)
            (trodAll_cons_mk (shut_int Try.underlying3 w4) trodAll_mk0))))), rfl, bel.frame _, fun h => by cases h⟩

theorem over : Rows.fnShardRefusesAbsentIDRow.holds Try.pinned (OpenSpec.ofChange Rows.fnShardRefusesAbsentIDSpec) :=
  OpenClaim.holds_of_wide 4 Try.f4 rfl rfl rfl rfl rfl rfl rfl ⟨rfl, rfl, rfl, rfl, rfl⟩ rfl rfl rfl rfl rfl (by kernel_rfl) Try.func4 (by kernel_rfl)
    (of_decide_eq_true (by kernel_rfl)) (by unfold Func.isWrapper; first | (rw [if_pos (by decide +kernel)]; kernel_rfl) | (rw [if_neg (by decide +kernel)]; exact ⟨rfl, rfl⟩))
    (fun os started H enc _ => lifted os started H enc)

/-- THE STATEMENT -/
theorem proved : Rows.FnShardRefusesAbsentIDSaid := over
end Go.Proofs.Qxb6001492a.fnShardRefusesAbsentID
