/-
  No cell of these rows narrows 'for every input' (looked for: loops, veiled, ifaces, maps, wideKeys, modest, calm, conditions, laid).
  DERIVED. THE GIVEN ROWS OF THIS SEAT. 2 by the template 'for every input the law returns true; each argument reads behind the call as it read before'; 0 by the template 'total and deterministic' (their statements: Qxb6605254aModsTotals.lean).
  GIVEN WITH THE SEED: the statements are not yours to turn. If you find one false, say at which input.
  Laid BY PROGRAM, IN A SANDBOX (cutbox-rows.mjs): the forced cells as the released guide's own fill.sh prints them over the translation 054fec14e6d49ef2… (all of the seat's roots in one cut). By AI agents, Wed Nov 11 2026. No macro, syntax, notation, axiom, sorry.
-/
import Derived.Test.Qxb6605254aModsChecked
import GoSem.Claim
import GoSem.ClaimJoined
import GoSem.ClaimMapViews
import Derived.JoinedTies
import Derived.KernelRfl
namespace Go.Proofs.Qxb6605254aMods
/- THE CELL 'sum', in the pinned program and in every row, IS THE sha256 OF THE DUMP (.gsa) THAT Qxb6605254aModsProg.lean LOADS. Nothing in Lean hashes anything: it is a label: what it is worth is what the hold of that sum in a sandbox is worth. -/
noncomputable def Trym.pinned : Pinned := { name := "qxb6605254amods", sum := "054fec14e6d49ef2f737886157404367e4075188bc9f640d1694147039f05157", checked := Trym.checked }
namespace Rows
def none {H : Type} : Left H := { results := [], args := [] }

/-- 'zzlaws_internal_plan_b1.FnUserDefinedMatchesAreaEnumeration': WHATEVER THE INPUT: true; the input reads as it did. -/
def fnUserDefinedMatchesAreaEnumerationSpec : ChangeSpec := { name := "fnUserDefinedMatchesAreaEnumeration", fn := fun _ => fun
  | [d] => { results := [.lit (.bool true)], args := [d] }
  | _ => none }
def fnUserDefinedMatchesAreaEnumerationRow : OpenClaim := { program := "qxb6605254amods", sum := "054fec14e6d49ef2f737886157404367e4075188bc9f640d1694147039f05157", func := "example.com/vestledger/vestledger/zzlaws_internal_plan_b1.FnUserDefinedMatchesAreaEnumeration", spec := "fnUserDefinedMatchesAreaEnumeration", make := .lifted ["publicsums"], apart := false }
def FnUserDefinedMatchesAreaEnumerationSaid : Prop := fnUserDefinedMatchesAreaEnumerationRow.holds Trym.pinned (OpenSpec.ofChange fnUserDefinedMatchesAreaEnumerationSpec)

/-- ITS FALSE NEIGHBOUR: 'it returns false'. Refute it at one input. -/
def fnUserDefinedMatchesAreaEnumerationWrong : ChangeSpec := { name := "fnUserDefinedMatchesAreaEnumeration", fn := fun _ => fun
  | [d] => { results := [.lit (.bool false)], args := [d] }
  | _ => none }
def FnUserDefinedMatchesAreaEnumerationWrongFalsely : Prop := fnUserDefinedMatchesAreaEnumerationRow.holds Trym.pinned (OpenSpec.ofChange fnUserDefinedMatchesAreaEnumerationWrong)

/-- 'zzlaws_internal_plan_b1.FnUserDefinedReachesEveryPUAPoint': WHATEVER THE INPUT: true; the input reads as it did. -/
def fnUserDefinedReachesEveryPUAPointSpec : ChangeSpec := { name := "fnUserDefinedReachesEveryPUAPoint", fn := fun _ => fun
  | [d] => { results := [.lit (.bool true)], args := [d] }
  | _ => none }
def fnUserDefinedReachesEveryPUAPointRow : OpenClaim := { program := "qxb6605254amods", sum := "054fec14e6d49ef2f737886157404367e4075188bc9f640d1694147039f05157", func := "example.com/vestledger/vestledger/zzlaws_internal_plan_b1.FnUserDefinedReachesEveryPUAPoint", spec := "fnUserDefinedReachesEveryPUAPoint", make := .lifted ["publicsums"], apart := false }
def FnUserDefinedReachesEveryPUAPointSaid : Prop := fnUserDefinedReachesEveryPUAPointRow.holds Trym.pinned (OpenSpec.ofChange fnUserDefinedReachesEveryPUAPointSpec)

/-- ITS FALSE NEIGHBOUR: 'it returns false'. Refute it at one input. -/
def fnUserDefinedReachesEveryPUAPointWrong : ChangeSpec := { name := "fnUserDefinedReachesEveryPUAPoint", fn := fun _ => fun
  | [d] => { results := [.lit (.bool false)], args := [d] }
  | _ => none }
def FnUserDefinedReachesEveryPUAPointWrongFalsely : Prop := fnUserDefinedReachesEveryPUAPointRow.holds Trym.pinned (OpenSpec.ofChange fnUserDefinedReachesEveryPUAPointWrong)

end Rows
end Go.Proofs.Qxb6605254aMods
