/-
  No cell of these rows narrows 'for every input' (looked for: loops, veiled, ifaces, maps, wideKeys, modest, calm, conditions, laid).
  DERIVED. THE GIVEN ROWS OF THIS SEAT. 3 by the template 'for every input the law returns true; each argument reads behind the call as it read before'; 0 by the template 'total and deterministic' (their statements: Qxb6604800aModsTotals.lean).
  GIVEN WITH THE SEED: the statements are not yours to turn. If you find one false, say at which input.
  Laid BY PROGRAM, IN A SANDBOX (cutbox-rows.mjs): the forced cells as the released guide's own fill.sh prints them over the translation 846d8c6dc5c6a01c… (all of the seat's roots in one cut). By AI agents, Wed Nov 11 2026. No macro, syntax, notation, axiom, sorry.
-/
import Derived.Test.Qxb6604800aModsChecked
import GoSem.Claim
import GoSem.ClaimJoined
import GoSem.ClaimMapViews
import Derived.JoinedTies
import Derived.KernelRfl
namespace Go.Proofs.Qxb6604800aMods
/- THE CELL 'sum', in the pinned program and in every row, IS THE sha256 OF THE DUMP (.gsa) THAT Qxb6604800aModsProg.lean LOADS. Nothing in Lean hashes anything: it is a label: what it is worth is what the hold of that sum in a sandbox is worth. -/
noncomputable def Trym.pinned : Pinned := { name := "qxb6604800amods", sum := "846d8c6dc5c6a01c40d7d406b25c9bd13f9c0dbd75eef77c5f8ffc83458442ee", checked := Trym.checked }
namespace Rows
def none {H : Type} : Left H := { results := [], args := [] }

/-- 'zzlaws_server_b1.FnValidLockNameMatchesAlphabetModel': WHATEVER THE INPUT: true; the input reads as it did. -/
def fnValidLockNameMatchesAlphabetModelSpec : ChangeSpec := { name := "fnValidLockNameMatchesAlphabetModel", fn := fun _ => fun
  | [d] => { results := [.lit (.bool true)], args := [d] }
  | _ => none }
def fnValidLockNameMatchesAlphabetModelRow : OpenClaim := { program := "qxb6604800amods", sum := "846d8c6dc5c6a01c40d7d406b25c9bd13f9c0dbd75eef77c5f8ffc83458442ee", func := "example.com/rhadamanthus/rhadamanthus/zzlaws_server_b1.FnValidLockNameMatchesAlphabetModel", spec := "fnValidLockNameMatchesAlphabetModel", make := .lifted ["publicsums"], apart := false }
def FnValidLockNameMatchesAlphabetModelSaid : Prop := fnValidLockNameMatchesAlphabetModelRow.holds Trym.pinned (OpenSpec.ofChange fnValidLockNameMatchesAlphabetModelSpec)

/-- ITS FALSE NEIGHBOUR: 'it returns false'. Refute it at one input. -/
def fnValidLockNameMatchesAlphabetModelWrong : ChangeSpec := { name := "fnValidLockNameMatchesAlphabetModel", fn := fun _ => fun
  | [d] => { results := [.lit (.bool false)], args := [d] }
  | _ => none }
def FnValidLockNameMatchesAlphabetModelWrongFalsely : Prop := fnValidLockNameMatchesAlphabetModelRow.holds Trym.pinned (OpenSpec.ofChange fnValidLockNameMatchesAlphabetModelWrong)

/-- 'zzlaws_server_b1.FnValidLockNameConcatenation': WHATEVER THE INPUT: true; the input reads as it did. -/
def fnValidLockNameConcatenationSpec : ChangeSpec := { name := "fnValidLockNameConcatenation", fn := fun _ => fun
  | [d1, d2] => { results := [.lit (.bool true)], args := [d1, d2] }
  | _ => none }
def fnValidLockNameConcatenationRow : OpenClaim := { program := "qxb6604800amods", sum := "846d8c6dc5c6a01c40d7d406b25c9bd13f9c0dbd75eef77c5f8ffc83458442ee", func := "example.com/rhadamanthus/rhadamanthus/zzlaws_server_b1.FnValidLockNameConcatenation", spec := "fnValidLockNameConcatenation", make := .lifted ["publicsums"], apart := false }
def FnValidLockNameConcatenationSaid : Prop := fnValidLockNameConcatenationRow.holds Trym.pinned (OpenSpec.ofChange fnValidLockNameConcatenationSpec)

/-- ITS FALSE NEIGHBOUR: 'it returns false'. Refute it at one input. -/
def fnValidLockNameConcatenationWrong : ChangeSpec := { name := "fnValidLockNameConcatenation", fn := fun _ => fun
  | [d1, d2] => { results := [.lit (.bool false)], args := [d1, d2] }
  | _ => none }
def FnValidLockNameConcatenationWrongFalsely : Prop := fnValidLockNameConcatenationRow.holds Trym.pinned (OpenSpec.ofChange fnValidLockNameConcatenationWrong)

/-- 'zzlaws_server_b1.FnValidLockNameSubstringOfValidIsValid': WHATEVER THE INPUT: true; the input reads as it did. -/
def fnValidLockNameSubstringOfValidIsValidSpec : ChangeSpec := { name := "fnValidLockNameSubstringOfValidIsValid", fn := fun _ => fun
  | [d1, d2, d3] => { results := [.lit (.bool true)], args := [d1, d2, d3] }
  | _ => none }
def fnValidLockNameSubstringOfValidIsValidRow : OpenClaim := { program := "qxb6604800amods", sum := "846d8c6dc5c6a01c40d7d406b25c9bd13f9c0dbd75eef77c5f8ffc83458442ee", func := "example.com/rhadamanthus/rhadamanthus/zzlaws_server_b1.FnValidLockNameSubstringOfValidIsValid", spec := "fnValidLockNameSubstringOfValidIsValid", make := .lifted ["publicsums"], apart := false }
def FnValidLockNameSubstringOfValidIsValidSaid : Prop := fnValidLockNameSubstringOfValidIsValidRow.holds Trym.pinned (OpenSpec.ofChange fnValidLockNameSubstringOfValidIsValidSpec)

/-- ITS FALSE NEIGHBOUR: 'it returns false'. Refute it at one input. -/
def fnValidLockNameSubstringOfValidIsValidWrong : ChangeSpec := { name := "fnValidLockNameSubstringOfValidIsValid", fn := fun _ => fun
  | [d1, d2, d3] => { results := [.lit (.bool false)], args := [d1, d2, d3] }
  | _ => none }
def FnValidLockNameSubstringOfValidIsValidWrongFalsely : Prop := fnValidLockNameSubstringOfValidIsValidRow.holds Trym.pinned (OpenSpec.ofChange fnValidLockNameSubstringOfValidIsValidWrong)

end Rows
end Go.Proofs.Qxb6604800aMods
