/-
  No cell of these rows narrows 'for every input' (looked for: loops, veiled, ifaces, maps, wideKeys, modest, calm, conditions, laid).
  DERIVED. THE GIVEN ROWS OF THIS SEAT. 3 by the template 'for every input the law returns true; each argument reads behind the call as it read before'; 0 by the template 'total and deterministic' (their statements: Qxb6001267aTotals.lean).
  GIVEN WITH THE SEED: the statements are not yours to turn. If you find one false, say at which input.
  Laid BY PROGRAM, IN A SANDBOX (cutbox-rows.mjs): the forced cells as the released guide's own fill.sh prints them over the translation 43f3f732387be163… (all of the seat's roots in one cut). By AI agents, Wed Nov 11 2026. No macro, syntax, notation, axiom, sorry.
-/
import Derived.Test.Qxb6001267aChecked
import GoSem.Claim
import GoSem.ClaimJoined
import GoSem.ClaimMapViews
import Derived.JoinedTies
import Derived.KernelRfl
namespace Go.Proofs.Qxb6001267a
/- THE CELL 'sum', in the pinned program and in every row, IS THE sha256 OF THE DUMP (.gsa) THAT Qxb6001267aProg.lean LOADS. Nothing in Lean hashes anything: it is a label: what it is worth is what the hold of that sum in a sandbox is worth. -/
noncomputable def Try.pinned : Pinned := { name := "qxb6001267a", sum := "43f3f732387be16378bf269ac5441ec66070a2c12899a56f8948d5cd4b711644", checked := Try.checked }
namespace Rows
def none {H : Type} : Left H := { results := [], args := [] }

/-- 'zzlaws_root_b1.FnIsNameByteMatchesDocumentedAlphabet': WHATEVER THE INPUT: true; the input reads as it did. -/
def fnIsNameByteMatchesDocumentedAlphabetSpec : ChangeSpec := { name := "fnIsNameByteMatchesDocumentedAlphabet", fn := fun _ => fun
  | [d] => { results := [.lit (.bool true)], args := [d] }
  | _ => none }
def fnIsNameByteMatchesDocumentedAlphabetRow : OpenClaim := { program := "qxb6001267a", sum := "43f3f732387be16378bf269ac5441ec66070a2c12899a56f8948d5cd4b711644", func := "example.com/ratchet-ledger/ratchet-ledger/zzlaws_root_b1.FnIsNameByteMatchesDocumentedAlphabet", spec := "fnIsNameByteMatchesDocumentedAlphabet", apart := false }
def FnIsNameByteMatchesDocumentedAlphabetSaid : Prop := fnIsNameByteMatchesDocumentedAlphabetRow.holds Try.pinned (OpenSpec.ofChange fnIsNameByteMatchesDocumentedAlphabetSpec)

/-- ITS FALSE NEIGHBOUR: 'it returns false'. Refute it at one input. -/
def fnIsNameByteMatchesDocumentedAlphabetWrong : ChangeSpec := { name := "fnIsNameByteMatchesDocumentedAlphabet", fn := fun _ => fun
  | [d] => { results := [.lit (.bool false)], args := [d] }
  | _ => none }
def FnIsNameByteMatchesDocumentedAlphabetWrongFalsely : Prop := fnIsNameByteMatchesDocumentedAlphabetRow.holds Try.pinned (OpenSpec.ofChange fnIsNameByteMatchesDocumentedAlphabetWrong)

/-- 'zzlaws_root_b1.FnIsNameByteRefusesNonPrintable': WHATEVER THE INPUT: true; the input reads as it did. -/
def fnIsNameByteRefusesNonPrintableSpec : ChangeSpec := { name := "fnIsNameByteRefusesNonPrintable", fn := fun _ => fun
  | [d] => { results := [.lit (.bool true)], args := [d] }
  | _ => none }
def fnIsNameByteRefusesNonPrintableRow : OpenClaim := { program := "qxb6001267a", sum := "43f3f732387be16378bf269ac5441ec66070a2c12899a56f8948d5cd4b711644", func := "example.com/ratchet-ledger/ratchet-ledger/zzlaws_root_b1.FnIsNameByteRefusesNonPrintable", spec := "fnIsNameByteRefusesNonPrintable", apart := false }
def FnIsNameByteRefusesNonPrintableSaid : Prop := fnIsNameByteRefusesNonPrintableRow.holds Try.pinned (OpenSpec.ofChange fnIsNameByteRefusesNonPrintableSpec)

/-- ITS FALSE NEIGHBOUR: 'it returns false'. Refute it at one input. -/
def fnIsNameByteRefusesNonPrintableWrong : ChangeSpec := { name := "fnIsNameByteRefusesNonPrintable", fn := fun _ => fun
  | [d] => { results := [.lit (.bool false)], args := [d] }
  | _ => none }
def FnIsNameByteRefusesNonPrintableWrongFalsely : Prop := fnIsNameByteRefusesNonPrintableRow.holds Try.pinned (OpenSpec.ofChange fnIsNameByteRefusesNonPrintableWrong)

/-- 'zzlaws_root_b1.FnIsNameByteCaseFoldInvariant': WHATEVER THE INPUT: true; the input reads as it did. -/
def fnIsNameByteCaseFoldInvariantSpec : ChangeSpec := { name := "fnIsNameByteCaseFoldInvariant", fn := fun _ => fun
  | [d] => { results := [.lit (.bool true)], args := [d] }
  | _ => none }
def fnIsNameByteCaseFoldInvariantRow : OpenClaim := { program := "qxb6001267a", sum := "43f3f732387be16378bf269ac5441ec66070a2c12899a56f8948d5cd4b711644", func := "example.com/ratchet-ledger/ratchet-ledger/zzlaws_root_b1.FnIsNameByteCaseFoldInvariant", spec := "fnIsNameByteCaseFoldInvariant", apart := false }
def FnIsNameByteCaseFoldInvariantSaid : Prop := fnIsNameByteCaseFoldInvariantRow.holds Try.pinned (OpenSpec.ofChange fnIsNameByteCaseFoldInvariantSpec)

/-- ITS FALSE NEIGHBOUR: 'it returns false'. Refute it at one input. -/
def fnIsNameByteCaseFoldInvariantWrong : ChangeSpec := { name := "fnIsNameByteCaseFoldInvariant", fn := fun _ => fun
  | [d] => { results := [.lit (.bool false)], args := [d] }
  | _ => none }
def FnIsNameByteCaseFoldInvariantWrongFalsely : Prop := fnIsNameByteCaseFoldInvariantRow.holds Try.pinned (OpenSpec.ofChange fnIsNameByteCaseFoldInvariantWrong)

end Rows
end Go.Proofs.Qxb6001267a
