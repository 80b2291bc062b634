/-
  NARROWER THAN 'FOR EVERY INPUT', by the rows' own cells (each row's printed sentence says how): FnCelTypeSameIsCanonicalEquality: loops · FnCelTypeSameIsEquivalence: loops.
  DERIVED. THE GIVEN ROWS OF THIS SEAT. 3 by the template 'for every input the law returns true; each argument reads behind the call as it read before'; 0 by the template 'total and deterministic' (their statements: Qxb6605345aModsTotals.lean).
  GIVEN WITH THE SEED: the statements are not yours to turn. If you find one false, say at which input.
  Laid BY PROGRAM, IN A SANDBOX (cutbox-rows.mjs): the forced cells as the released guide's own fill.sh prints them over the translation e7443e882ab7ea53… (all of the seat's roots in one cut). By AI agents, Wed Nov 11 2026. No macro, syntax, notation, axiom, sorry.
-/
import Derived.Test.Qxb6605345aModsChecked
import GoSem.Claim
import GoSem.ClaimJoined
import GoSem.ClaimMapViews
import Derived.JoinedTies
import Derived.KernelRfl
namespace Go.Proofs.Qxb6605345aMods
/- THE CELL 'sum', in the pinned program and in every row, IS THE sha256 OF THE DUMP (.gsa) THAT Qxb6605345aModsProg.lean LOADS. Nothing in Lean hashes anything: it is a label: what it is worth is what the hold of that sum in a sandbox is worth. -/
noncomputable def Trym.pinned : Pinned := { name := "qxb6605345amods", sum := "e7443e882ab7ea538bf00e09f7f22e224f28fdbb026c02d9cfe7f5d398b6ce8a", checked := Trym.checked }
namespace Rows
def none {H : Type} : Left H := { results := [], args := [] }

/-- 'zzlaws_internal_cel_b1.FnCelTypeSameIsCanonicalEquality': WHATEVER THE INPUT: true; the input reads as it did. -/
def fnCelTypeSameIsCanonicalEqualitySpec : ChangeSpec := { name := "fnCelTypeSameIsCanonicalEquality", fn := fun _ => fun
  | [d1, d2] => { results := [.lit (.bool true)], args := [d1, d2] }
  | _ => none }
def fnCelTypeSameIsCanonicalEqualityRow : OpenClaim := { program := "qxb6605345amods", sum := "e7443e882ab7ea538bf00e09f7f22e224f28fdbb026c02d9cfe7f5d398b6ce8a", func := "example.com/berth/berth/zzlaws_internal_cel_b1.FnCelTypeSameIsCanonicalEquality", spec := "fnCelTypeSameIsCanonicalEquality", recurses := true, loops := true, make := .lifted ["publicsums"], apart := false }
def FnCelTypeSameIsCanonicalEqualitySaid : Prop := fnCelTypeSameIsCanonicalEqualityRow.holds Trym.pinned (OpenSpec.ofChange fnCelTypeSameIsCanonicalEqualitySpec)

/-- ITS FALSE NEIGHBOUR: 'it returns false'. Refute it at one input. -/
def fnCelTypeSameIsCanonicalEqualityWrong : ChangeSpec := { name := "fnCelTypeSameIsCanonicalEquality", fn := fun _ => fun
  | [d1, d2] => { results := [.lit (.bool false)], args := [d1, d2] }
  | _ => none }
def FnCelTypeSameIsCanonicalEqualityWrongFalsely : Prop := fnCelTypeSameIsCanonicalEqualityRow.holds Trym.pinned (OpenSpec.ofChange fnCelTypeSameIsCanonicalEqualityWrong)

/-- 'zzlaws_internal_cel_b1.FnCelTypeSameIsEquivalence': WHATEVER THE INPUT: true; the input reads as it did. -/
def fnCelTypeSameIsEquivalenceSpec : ChangeSpec := { name := "fnCelTypeSameIsEquivalence", fn := fun _ => fun
  | [d1, d2, d3] => { results := [.lit (.bool true)], args := [d1, d2, d3] }
  | _ => none }
def fnCelTypeSameIsEquivalenceRow : OpenClaim := { program := "qxb6605345amods", sum := "e7443e882ab7ea538bf00e09f7f22e224f28fdbb026c02d9cfe7f5d398b6ce8a", func := "example.com/berth/berth/zzlaws_internal_cel_b1.FnCelTypeSameIsEquivalence", spec := "fnCelTypeSameIsEquivalence", recurses := true, loops := true, make := .lifted ["publicsums"], apart := false }
def FnCelTypeSameIsEquivalenceSaid : Prop := fnCelTypeSameIsEquivalenceRow.holds Trym.pinned (OpenSpec.ofChange fnCelTypeSameIsEquivalenceSpec)

/-- ITS FALSE NEIGHBOUR: 'it returns false'. Refute it at one input. -/
def fnCelTypeSameIsEquivalenceWrong : ChangeSpec := { name := "fnCelTypeSameIsEquivalence", fn := fun _ => fun
  | [d1, d2, d3] => { results := [.lit (.bool false)], args := [d1, d2, d3] }
  | _ => none }
def FnCelTypeSameIsEquivalenceWrongFalsely : Prop := fnCelTypeSameIsEquivalenceRow.holds Trym.pinned (OpenSpec.ofChange fnCelTypeSameIsEquivalenceWrong)

/-- 'zzlaws_internal_cel_b1.FnMapASCIIShiftBackRestores': WHATEVER THE INPUT: true; the input reads as it did. -/
def fnMapASCIIShiftBackRestoresSpec : ChangeSpec := { name := "fnMapASCIIShiftBackRestores", fn := fun _ => fun
  | [d1, d2, d3, d4] => { results := [.lit (.bool true)], args := [d1, d2, d3, d4] }
  | _ => none }
def fnMapASCIIShiftBackRestoresRow : OpenClaim := { program := "qxb6605345amods", sum := "e7443e882ab7ea538bf00e09f7f22e224f28fdbb026c02d9cfe7f5d398b6ce8a", func := "example.com/berth/berth/zzlaws_internal_cel_b1.FnMapASCIIShiftBackRestores", spec := "fnMapASCIIShiftBackRestores", make := .lifted ["publicsums"], apart := false }
def FnMapASCIIShiftBackRestoresSaid : Prop := fnMapASCIIShiftBackRestoresRow.holds Trym.pinned (OpenSpec.ofChange fnMapASCIIShiftBackRestoresSpec)

/-- ITS FALSE NEIGHBOUR: 'it returns false'. Refute it at one input. -/
def fnMapASCIIShiftBackRestoresWrong : ChangeSpec := { name := "fnMapASCIIShiftBackRestores", fn := fun _ => fun
  | [d1, d2, d3, d4] => { results := [.lit (.bool false)], args := [d1, d2, d3, d4] }
  | _ => none }
def FnMapASCIIShiftBackRestoresWrongFalsely : Prop := fnMapASCIIShiftBackRestoresRow.holds Trym.pinned (OpenSpec.ofChange fnMapASCIIShiftBackRestoresWrong)

end Rows
end Go.Proofs.Qxb6605345aMods
