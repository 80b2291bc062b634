/-
  THE PLAIN LAW of GB 18030's user-defined areas: no Go in sight.
-/
import Derived.WalkKit
namespace Go.Proofs.Qxb6605254aMods

/-- is (l, t) a code of one of the three areas, as userDefined tests it -/
def udOk (l t : Int) : Bool := decide (170 ≤ l ∧ l ≤ 175 ∧ 161 ≤ t ∨ 248 ≤ l ∧ 161 ≤ t ∨ 161 ≤ l ∧ l ≤ 167 ∧ t ≤ 160)
/-- its code point -/
def udVal (l t : Int) : Int :=
  if 170 ≤ l ∧ l ≤ 175 ∧ 161 ≤ t then 57344 + (l - 170) * 94 + t - 161
  else if 248 ≤ l ∧ 161 ≤ t then 57908 + (l - 248) * 94 + t - 161
  else if 161 ≤ l ∧ l ≤ 167 ∧ t ≤ 160 then (if 127 < t then 58566 + (l - 161) * 96 + (t - 1) - 64 else 58566 + (l - 161) * 96 + t - 64)
  else 0

/-- a well-formed two-byte code -/
def twoB (l t : Int) : Bool := decide (129 ≤ l ∧ l ≤ 254 ∧ 64 ≤ t ∧ t ≤ 254 ∧ t ≠ 127)
theorem twoB_yes {l t : Int} (h : 129 ≤ l ∧ l ≤ 254 ∧ 64 ≤ t ∧ t ≤ 254 ∧ t ≠ 127) : twoB l t = true := decide_eq_true h
theorem twoB_no {l t : Int} (h : ¬ (129 ≤ l ∧ l ≤ 254 ∧ 64 ≤ t ∧ t ≤ 254 ∧ t ≠ 127)) : twoB l t = false := decide_eq_false h
theorem udOk_yes {l t : Int} (h : 170 ≤ l ∧ l ≤ 175 ∧ 161 ≤ t ∨ 248 ≤ l ∧ 161 ≤ t ∨ 161 ≤ l ∧ l ≤ 167 ∧ t ≤ 160) : udOk l t = true := decide_eq_true h
theorem udOk_no {l t : Int} (h : ¬ (170 ≤ l ∧ l ≤ 175 ∧ 161 ≤ t ∨ 248 ≤ l ∧ 161 ≤ t ∨ 161 ≤ l ∧ l ≤ 167 ∧ t ≤ 160)) : udOk l t = false := decide_eq_false h
theorem udVal_1 {l t : Int} (h : 170 ≤ l ∧ l ≤ 175 ∧ 161 ≤ t) : udVal l t = 57344 + (l - 170) * 94 + t - 161 := if_pos h
theorem udVal_2 {l t : Int} (h : 248 ≤ l ∧ 161 ≤ t) : udVal l t = 57908 + (l - 248) * 94 + t - 161 := by
  unfold udVal; rw [if_neg (by omega), if_pos h]
theorem udVal_3 {l t : Int} (h : 161 ≤ l ∧ l ≤ 167 ∧ t ≤ 160) (h1 : 127 < t) : udVal l t = 58566 + (l - 161) * 96 + (t - 1) - 64 := by
  unfold udVal; rw [if_neg (by omega), if_neg (by omega), if_pos h, if_pos h1]
theorem udVal_4 {l t : Int} (h : 161 ≤ l ∧ l ≤ 167 ∧ t ≤ 160) (h1 : ¬ 127 < t) : udVal l t = 58566 + (l - 161) * 96 + t - 64 := by
  unfold udVal; rw [if_neg (by omega), if_neg (by omega), if_pos h, if_neg h1]
theorem udVal_0 {l t : Int} (h : ¬ (170 ≤ l ∧ l ≤ 175 ∧ 161 ≤ t ∨ 248 ≤ l ∧ 161 ≤ t ∨ 161 ≤ l ∧ l ≤ 167 ∧ t ≤ 160)) : udVal l t = 0 := by
  unfold udVal; rw [if_neg (by omega), if_neg (by omega), if_neg (by omega)]

end Go.Proofs.Qxb6605254aMods
