/-
  Seat b6002369aF: the closed facts that a walk over fmt.errorf's stop wants in this dump (each by the kernel), and the contract of fmt.Errorf (10) at this program's one format with two ints.
-/
import Derived.Test.Qxb6002369aFmtRows
import Derived.WalkKit
import Derived.WalkSpells
import Derived.WalkLawsBesides
import Derived.Stop.CallBack
import Derived.Stop.IfaceNil
namespace Go.Proofs.Qxb6002369aFmt
open Go.RowKit Go.Extern.Stop Go.Stop Go.Extern

/-- This program's one format, two ints in it. -/
def form : ByteArray := ⟨#[114, 101, 103, 117, 108, 97, 114, 32, 101, 120, 112, 114, 101, 115, 115, 105, 111, 110, 115, 32, 111, 102, 32, 115, 105, 122, 101, 32, 37, 100, 32, 105, 110, 32, 97, 108, 108, 44, 32, 112, 97, 115, 116, 32, 116, 104, 101, 32, 108, 105, 109, 105, 116, 32, 111, 102, 32, 37, 100]⟩

-- fmt.errorf: function 11: a plain stop
theorem Tryf.call11 (args : Array Value) (w : World) : (callFunc 11 args).run Tryf.prog w = ((FmtStop.errorf #[9, 35] #[27] args).run Tryf.prog w).andThen fun v w' => .ok (.value v) w' :=
  run_callFunc_extern Tryf.func11 (by kernel_rfl) (by kernel_rfl) (by kernel_rfl) (by kernel_rfl) args w
theorem Tryf.guard (name : String) (w : World) : (FmtStop.guard name).run Tryf.prog w = .ok () w := by kernel_rfl
theorem Tryf.fmt0 : FmtStop.printed? form 2 = some [(0, 100, false), (1, 100, false)] := by kernel_rfl
theorem Tryf.fmt0r (w : World) : (FmtDoors.printed form 2).run Tryf.prog w = .ok [(0, 100, false), (1, 100, false)] w := by kernel_rfl
def Tryf.shape3 : List UInt8 := [5, 3, 0, 0, 0, 0, 0, 0, 0, 105, 110, 116]
theorem Tryf.op3_100 (name : String) (x : Int) (w : World) : (FmtStop.operand name false 100 false (.iface 3 (.int .i64 x))).run Tryf.prog w = .ok (Tryf.shape3, digits 8 (x % 2 ^ 64).toNat) w := by kernel_rfl
theorem Tryf.op3_100w (name : String) (x : Int) (w : World) : (FmtStop.operand name true 100 false (.iface 3 (.int .i64 x))).run Tryf.prog w = .ok (Tryf.shape3, digits 8 (x % 2 ^ 64).toNat) w := by kernel_rfl
theorem Tryf.ptr38 (w : World) : (FmtStop.ptrTo "errors.errorString").run Tryf.prog w = .ok 38 w := by kernel_rfl
theorem Tryf.elem38 (w : World) : (elemOf 38).run Tryf.prog w = .ok 40 w := by kernel_rfl

attribute [local go_sem] Tryf.call11 Tryf.guard Tryf.fmt0 Tryf.fmt0r Tryf.op3_100 Tryf.op3_100w Tryf.ptr38 Tryf.elem38

set_option maxHeartbeats 400000 in
theorem errorf_any (F : Interp) (b : Nat) (x y : Int) (w : World) (hF : F.answers w.tape) (h0 : w.cell? ⟨b, 0, none⟩ = some (.iface 3 (.int .i64 x))) (h1 : w.cell? ⟨b, 1, none⟩ = some (.iface 3 (.int .i64 y))) :
    Calls Tryf.prog 10 #[.string form, .slice (some ⟨b, 0, none⟩) 2 2] w fun e w' =>
      e = .returned (.iface 38 (.pointer (some ⟨w.heap.size, 0, none⟩))) ∧ Below w.heap.size w w' := by
  have hF' := answers_open hF
  go_enter Tryf.func10, Tryf.ntmps10
  go_wp2
  go_ret
  exact ⟨rfl, ((Below.refl _ _).alloc (Nat.le_refl _) _).drew⟩
end Go.Proofs.Qxb6002369aFmt
