/-
  DERIVED. GIVEN WITH THE SEED: THE CARDS: each row of Qxb6002369aFmtRows.lean that lists a variable, with what it lists TIED to the program's text (the seventh form; the later family's looks); each row that meets fmt, with fmt's text TOLD by the authors' own Lean function (tested against real Go, not proved from fmt's source: count such statements apart). THE CARD IS WHAT COUNTS. Prove the row's statement (the work); the ties are given (Qxb6002369aFmtTie.lean); close each card by the builder's one call (the guide's Derived/Test/ToyasCard.lean, 'card_holds'). Laid BY PROGRAM, IN A SANDBOX (cutbox-door.mjs). By AI agents, Wed Nov 11 2026. No macro, syntax, notation, axiom, sorry.
-/
import Derived.Test.Qxb6002369aFmtRows
import GoSem.ClaimSeven
namespace Go.Proofs.Qxb6002369aFmt
namespace Rows

/-- THE TOLD CARD OF 'zzlaws_root_g1.FnRegexpRoomScriptAdmitsExactlyWhatFits'. -/
def fnRegexpRoomScriptAdmitsExactlyWhatFitsCard : Claim7 := { stood := { row := fnRegexpRoomScriptAdmitsExactlyWhatFitsRow, standIns := [], harness := (true, "2e25561f28d8e886d11566259a5ab01d51d04d2af8bb53be5511e07f31df702f"), looks := false }, told := true, goes := false }
def FnRegexpRoomScriptAdmitsExactlyWhatFitsToldSaid : Prop := Claim7.holds Tryf.pinned (.plain (OpenSpec.ofChange fnRegexpRoomScriptAdmitsExactlyWhatFitsSpec)) fnRegexpRoomScriptAdmitsExactlyWhatFitsCard
/-- ITS FALSE NEIGHBOUR. Refute it at one input. -/
def FnRegexpRoomScriptAdmitsExactlyWhatFitsToldWrongFalsely : Prop := Claim7.holds Tryf.pinned (.plain (OpenSpec.ofChange fnRegexpRoomScriptAdmitsExactlyWhatFitsWrong)) fnRegexpRoomScriptAdmitsExactlyWhatFitsCard

/-- THE TOLD CARD OF 'zzlaws_root_g1.FnRegexpRoomSplitTakeAgrees'. -/
def fnRegexpRoomSplitTakeAgreesCard : Claim7 := { stood := { row := fnRegexpRoomSplitTakeAgreesRow, standIns := [], harness := (true, "2e25561f28d8e886d11566259a5ab01d51d04d2af8bb53be5511e07f31df702f"), looks := false }, told := true, goes := false }
def FnRegexpRoomSplitTakeAgreesToldSaid : Prop := Claim7.holds Tryf.pinned (.plain (OpenSpec.ofChange fnRegexpRoomSplitTakeAgreesSpec)) fnRegexpRoomSplitTakeAgreesCard
/-- ITS FALSE NEIGHBOUR. Refute it at one input. -/
def FnRegexpRoomSplitTakeAgreesToldWrongFalsely : Prop := Claim7.holds Tryf.pinned (.plain (OpenSpec.ofChange fnRegexpRoomSplitTakeAgreesWrong)) fnRegexpRoomSplitTakeAgreesCard
end Rows
end Go.Proofs.Qxb6002369aFmt
