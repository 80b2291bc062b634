/-
  No cell of these rows narrows 'for every input' (looked for: loops, veiled, ifaces, maps, wideKeys, modest, calm, conditions, laid).
  DERIVED. THE GIVEN ROWS OF THIS SEAT. 6 by the template 'for every input the law returns true; each argument reads behind the call as it read before'; 0 by the template 'total and deterministic' (their statements: Qxb6000467aModsTotals.lean).
  GIVEN WITH THE SEED: the statements are not yours to turn. If you find one false, say at which input.
  Laid BY PROGRAM, IN A SANDBOX (cutbox-rows.mjs): the forced cells as the released guide's own fill.sh prints them over the translation 7266249ea2725f78… (all of the seat's roots in one cut). By AI agents, Wed Nov 11 2026. No macro, syntax, notation, axiom, sorry.
-/
import Derived.Test.Qxb6000467aModsChecked
import GoSem.Claim
import GoSem.ClaimJoined
import GoSem.ClaimMapViews
import Derived.JoinedTies
import Derived.KernelRfl
namespace Go.Proofs.Qxb6000467aMods
/- THE CELL 'sum', in the pinned program and in every row, IS THE sha256 OF THE DUMP (.gsa) THAT Qxb6000467aModsProg.lean LOADS. Nothing in Lean hashes anything: it is a label: what it is worth is what the hold of that sum in a sandbox is worth. -/
noncomputable def Trym.pinned : Pinned := { name := "qxb6000467amods", sum := "7266249ea2725f784d7e3a12933e78d51e2176683dd3a705331148c2f1825aba", checked := Trym.checked }
namespace Rows
def none {H : Type} : Left H := { results := [], args := [] }

/-- 'zzlaws_api_v1alpha1_b1.FnBIOSDeepCopyIntoCopiesExactly': WHATEVER THE INPUT: true; the input reads as it did. -/
def fnBIOSDeepCopyIntoCopiesExactlySpec : ChangeSpec := { name := "fnBIOSDeepCopyIntoCopiesExactly", fn := fun _ => fun
  | [d1, d2, d3, d4, d5, d6] => { results := [.lit (.bool true)], args := [d1, d2, d3, d4, d5, d6] }
  | _ => none }
def fnBIOSDeepCopyIntoCopiesExactlyRow : OpenClaim := { program := "qxb6000467amods", sum := "7266249ea2725f784d7e3a12933e78d51e2176683dd3a705331148c2f1825aba", func := "example.com/bloomery/bloomery/zzlaws_api_v1alpha1_b1.FnBIOSDeepCopyIntoCopiesExactly", spec := "fnBIOSDeepCopyIntoCopiesExactly", make := .lifted ["publicsums"], apart := false }
def FnBIOSDeepCopyIntoCopiesExactlySaid : Prop := fnBIOSDeepCopyIntoCopiesExactlyRow.holds Trym.pinned (OpenSpec.ofChange fnBIOSDeepCopyIntoCopiesExactlySpec)

/-- ITS FALSE NEIGHBOUR: 'it returns false'. Refute it at one input. -/
def fnBIOSDeepCopyIntoCopiesExactlyWrong : ChangeSpec := { name := "fnBIOSDeepCopyIntoCopiesExactly", fn := fun _ => fun
  | [d1, d2, d3, d4, d5, d6] => { results := [.lit (.bool false)], args := [d1, d2, d3, d4, d5, d6] }
  | _ => none }
def FnBIOSDeepCopyIntoCopiesExactlyWrongFalsely : Prop := fnBIOSDeepCopyIntoCopiesExactlyRow.holds Trym.pinned (OpenSpec.ofChange fnBIOSDeepCopyIntoCopiesExactlyWrong)

/-- 'zzlaws_api_v1alpha1_b1.FnBIOSDeepCopyIntoSharesNoMap': WHATEVER THE INPUT: true; the input reads as it did. -/
def fnBIOSDeepCopyIntoSharesNoMapSpec : ChangeSpec := { name := "fnBIOSDeepCopyIntoSharesNoMap", fn := fun _ => fun
  | [d1, d2, d3, d4, d5, d6] => { results := [.lit (.bool true)], args := [d1, d2, d3, d4, d5, d6] }
  | _ => none }
def fnBIOSDeepCopyIntoSharesNoMapRow : OpenClaim := { program := "qxb6000467amods", sum := "7266249ea2725f784d7e3a12933e78d51e2176683dd3a705331148c2f1825aba", func := "example.com/bloomery/bloomery/zzlaws_api_v1alpha1_b1.FnBIOSDeepCopyIntoSharesNoMap", spec := "fnBIOSDeepCopyIntoSharesNoMap", make := .lifted ["publicsums"], apart := false }
def FnBIOSDeepCopyIntoSharesNoMapSaid : Prop := fnBIOSDeepCopyIntoSharesNoMapRow.holds Trym.pinned (OpenSpec.ofChange fnBIOSDeepCopyIntoSharesNoMapSpec)

/-- ITS FALSE NEIGHBOUR: 'it returns false'. Refute it at one input. -/
def fnBIOSDeepCopyIntoSharesNoMapWrong : ChangeSpec := { name := "fnBIOSDeepCopyIntoSharesNoMap", fn := fun _ => fun
  | [d1, d2, d3, d4, d5, d6] => { results := [.lit (.bool false)], args := [d1, d2, d3, d4, d5, d6] }
  | _ => none }
def FnBIOSDeepCopyIntoSharesNoMapWrongFalsely : Prop := fnBIOSDeepCopyIntoSharesNoMapRow.holds Trym.pinned (OpenSpec.ofChange fnBIOSDeepCopyIntoSharesNoMapWrong)

/-- 'zzlaws_api_v1alpha1_b1.FnBMCDeepCopyIntoCopiesExactly': WHATEVER THE INPUT: true; the input reads as it did. -/
def fnBMCDeepCopyIntoCopiesExactlySpec : ChangeSpec := { name := "fnBMCDeepCopyIntoCopiesExactly", fn := fun _ => fun
  | [d1, d2, d3, d4, d5, d6, d7, d8, d9] => { results := [.lit (.bool true)], args := [d1, d2, d3, d4, d5, d6, d7, d8, d9] }
  | _ => none }
def fnBMCDeepCopyIntoCopiesExactlyRow : OpenClaim := { program := "qxb6000467amods", sum := "7266249ea2725f784d7e3a12933e78d51e2176683dd3a705331148c2f1825aba", func := "example.com/bloomery/bloomery/zzlaws_api_v1alpha1_b1.FnBMCDeepCopyIntoCopiesExactly", spec := "fnBMCDeepCopyIntoCopiesExactly", make := .lifted ["publicsums"], apart := false }
def FnBMCDeepCopyIntoCopiesExactlySaid : Prop := fnBMCDeepCopyIntoCopiesExactlyRow.holds Trym.pinned (OpenSpec.ofChange fnBMCDeepCopyIntoCopiesExactlySpec)

/-- ITS FALSE NEIGHBOUR: 'it returns false'. Refute it at one input. -/
def fnBMCDeepCopyIntoCopiesExactlyWrong : ChangeSpec := { name := "fnBMCDeepCopyIntoCopiesExactly", fn := fun _ => fun
  | [d1, d2, d3, d4, d5, d6, d7, d8, d9] => { results := [.lit (.bool false)], args := [d1, d2, d3, d4, d5, d6, d7, d8, d9] }
  | _ => none }
def FnBMCDeepCopyIntoCopiesExactlyWrongFalsely : Prop := fnBMCDeepCopyIntoCopiesExactlyRow.holds Trym.pinned (OpenSpec.ofChange fnBMCDeepCopyIntoCopiesExactlyWrong)

/-- 'zzlaws_api_v1alpha1_b1.FnBMCDeepCopyIntoSharesNoReference': WHATEVER THE INPUT: true; the input reads as it did. -/
def fnBMCDeepCopyIntoSharesNoReferenceSpec : ChangeSpec := { name := "fnBMCDeepCopyIntoSharesNoReference", fn := fun _ => fun
  | [d1, d2, d3, d4, d5, d6, d7] => { results := [.lit (.bool true)], args := [d1, d2, d3, d4, d5, d6, d7] }
  | _ => none }
def fnBMCDeepCopyIntoSharesNoReferenceRow : OpenClaim := { program := "qxb6000467amods", sum := "7266249ea2725f784d7e3a12933e78d51e2176683dd3a705331148c2f1825aba", func := "example.com/bloomery/bloomery/zzlaws_api_v1alpha1_b1.FnBMCDeepCopyIntoSharesNoReference", spec := "fnBMCDeepCopyIntoSharesNoReference", make := .lifted ["publicsums"], apart := false }
def FnBMCDeepCopyIntoSharesNoReferenceSaid : Prop := fnBMCDeepCopyIntoSharesNoReferenceRow.holds Trym.pinned (OpenSpec.ofChange fnBMCDeepCopyIntoSharesNoReferenceSpec)

/-- ITS FALSE NEIGHBOUR: 'it returns false'. Refute it at one input. -/
def fnBMCDeepCopyIntoSharesNoReferenceWrong : ChangeSpec := { name := "fnBMCDeepCopyIntoSharesNoReference", fn := fun _ => fun
  | [d1, d2, d3, d4, d5, d6, d7] => { results := [.lit (.bool false)], args := [d1, d2, d3, d4, d5, d6, d7] }
  | _ => none }
def FnBMCDeepCopyIntoSharesNoReferenceWrongFalsely : Prop := fnBMCDeepCopyIntoSharesNoReferenceRow.holds Trym.pinned (OpenSpec.ofChange fnBMCDeepCopyIntoSharesNoReferenceWrong)

/-- 'zzlaws_api_v1alpha1_b1.FnSpecDeepCopyIntoCopiesExactly': WHATEVER THE INPUT: true; the input reads as it did. -/
def fnSpecDeepCopyIntoCopiesExactlySpec : ChangeSpec := { name := "fnSpecDeepCopyIntoCopiesExactly", fn := fun _ => fun
  | [d1, d2, d3, d4, d5, d6, d7, d8, d9] => { results := [.lit (.bool true)], args := [d1, d2, d3, d4, d5, d6, d7, d8, d9] }
  | _ => none }
def fnSpecDeepCopyIntoCopiesExactlyRow : OpenClaim := { program := "qxb6000467amods", sum := "7266249ea2725f784d7e3a12933e78d51e2176683dd3a705331148c2f1825aba", func := "example.com/bloomery/bloomery/zzlaws_api_v1alpha1_b1.FnSpecDeepCopyIntoCopiesExactly", spec := "fnSpecDeepCopyIntoCopiesExactly", make := .lifted ["publicsums"], apart := false }
def FnSpecDeepCopyIntoCopiesExactlySaid : Prop := fnSpecDeepCopyIntoCopiesExactlyRow.holds Trym.pinned (OpenSpec.ofChange fnSpecDeepCopyIntoCopiesExactlySpec)

/-- ITS FALSE NEIGHBOUR: 'it returns false'. Refute it at one input. -/
def fnSpecDeepCopyIntoCopiesExactlyWrong : ChangeSpec := { name := "fnSpecDeepCopyIntoCopiesExactly", fn := fun _ => fun
  | [d1, d2, d3, d4, d5, d6, d7, d8, d9] => { results := [.lit (.bool false)], args := [d1, d2, d3, d4, d5, d6, d7, d8, d9] }
  | _ => none }
def FnSpecDeepCopyIntoCopiesExactlyWrongFalsely : Prop := fnSpecDeepCopyIntoCopiesExactlyRow.holds Trym.pinned (OpenSpec.ofChange fnSpecDeepCopyIntoCopiesExactlyWrong)

/-- 'zzlaws_api_v1alpha1_b1.FnSpecDeepCopyIntoSharesNoMemory': WHATEVER THE INPUT: true; the input reads as it did. -/
def fnSpecDeepCopyIntoSharesNoMemorySpec : ChangeSpec := { name := "fnSpecDeepCopyIntoSharesNoMemory", fn := fun _ => fun
  | [d1, d2, d3, d4, d5, d6, d7, d8] => { results := [.lit (.bool true)], args := [d1, d2, d3, d4, d5, d6, d7, d8] }
  | _ => none }
def fnSpecDeepCopyIntoSharesNoMemoryRow : OpenClaim := { program := "qxb6000467amods", sum := "7266249ea2725f784d7e3a12933e78d51e2176683dd3a705331148c2f1825aba", func := "example.com/bloomery/bloomery/zzlaws_api_v1alpha1_b1.FnSpecDeepCopyIntoSharesNoMemory", spec := "fnSpecDeepCopyIntoSharesNoMemory", make := .lifted ["publicsums"], apart := false }
def FnSpecDeepCopyIntoSharesNoMemorySaid : Prop := fnSpecDeepCopyIntoSharesNoMemoryRow.holds Trym.pinned (OpenSpec.ofChange fnSpecDeepCopyIntoSharesNoMemorySpec)

/-- ITS FALSE NEIGHBOUR: 'it returns false'. Refute it at one input. -/
def fnSpecDeepCopyIntoSharesNoMemoryWrong : ChangeSpec := { name := "fnSpecDeepCopyIntoSharesNoMemory", fn := fun _ => fun
  | [d1, d2, d3, d4, d5, d6, d7, d8] => { results := [.lit (.bool false)], args := [d1, d2, d3, d4, d5, d6, d7, d8] }
  | _ => none }
def FnSpecDeepCopyIntoSharesNoMemoryWrongFalsely : Prop := fnSpecDeepCopyIntoSharesNoMemoryRow.holds Trym.pinned (OpenSpec.ofChange fnSpecDeepCopyIntoSharesNoMemoryWrong)

end Rows
end Go.Proofs.Qxb6000467aMods
