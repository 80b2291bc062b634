/-
  THE PLAIN LAW of lock names: no Go in sight. A byte is good when it lies in [a-zA-Z0-9._-]; a name is good when it has 1 to 128 bytes, all good.
-/
import Derived.WalkKit
namespace Go.Proofs.Qxb6604800aMods

/-- the alphabet, as the constant of the Go text -/
def alph : List UInt8 := [97, 98, 99, 100, 101, 102, 103, 104, 105, 106, 107, 108, 109, 110, 111, 112, 113, 114, 115, 116, 117, 118, 119, 120, 121, 122, 65, 66, 67, 68, 69, 70, 71, 72, 73, 74, 75, 76, 77, 78, 79, 80, 81, 82, 83, 84, 85, 86, 87, 88, 89, 90, 48, 49, 50, 51, 52, 53, 54, 55, 56, 57, 46, 95, 45]

/-- one byte of the alphabet, by ranges -/
def okc (c : Int) : Bool := decide (97 ≤ c ∧ c ≤ 122 ∨ 65 ≤ c ∧ c ≤ 90 ∨ 48 ≤ c ∧ c ≤ 57 ∨ c = 46 ∨ c = 95 ∨ c = 45)

theorem okc_true {c : Int} (h : 97 ≤ c ∧ c ≤ 122 ∨ 65 ≤ c ∧ c ≤ 90 ∨ 48 ≤ c ∧ c ≤ 57 ∨ c = 46 ∨ c = 95 ∨ c = 45) : okc c = true := decide_eq_true h
theorem okc_false {c : Int} (h : ¬ (97 ≤ c ∧ c ≤ 122 ∨ 65 ≤ c ∧ c ≤ 90 ∨ 48 ≤ c ∧ c ≤ 57 ∨ c = 46 ∨ c = 95 ∨ c = 45)) : okc c = false := decide_eq_false h

/-- the ranges and the list say the same of every byte -/
theorem okc_mem : ∀ c : Fin 256, okc (c.val : Int) = alph.any (fun x => x.toNat == c.val) := by decide +kernel

theorem okc_at (k : Nat) (h : k < 65) : okc ((alph.getD k 0).toNat : Int) = true := by
  have : ∀ k : Fin 65, okc ((alph.getD k.val 0).toNat : Int) = true := by decide +kernel
  exact this ⟨k, h⟩

theorem okc_none (c : Int) (h0 : 0 ≤ c) (h1 : c ≤ 255) (h : ∀ j, j < 65 → ((alph.getD j 0).toNat : Int) ≠ c) : okc c = false := by
  obtain ⟨n, rfl⟩ : ∃ n : Nat, c = n := ⟨c.toNat, by omega⟩
  have e := okc_mem ⟨n, by omega⟩
  simp only at e
  rw [e, List.any_eq_false]
  intro x hx he
  obtain ⟨j, hj, hjx⟩ := List.getElem_of_mem hx
  refine h j hj ?_
  have hg : alph.getD j 0 = x := by rw [List.getD_eq_getElem?_getD, List.getElem?_eq_getElem hj, hjx]; rfl
  rw [hg]
  have : x.toNat = n := by simpa using he
  omega

theorem alph_size : (ByteArray.mk alph.toArray).size = 65 := by decide +kernel
theorem alph_idx (k : Nat) (h : k < (ByteArray.mk alph.toArray).size) : (ByteArray.mk alph.toArray)[k] = alph.getD k 0 := by
  have h' : k < alph.length := h
  rw [List.getD_eq_getElem?_getD, List.getElem?_eq_getElem h']; rfl
theorem hit (k : Nat) (h : k < (ByteArray.mk alph.toArray).size) (c : Int) (he : (((ByteArray.mk alph.toArray)[k].toNat : Int) == c) = true) : okc c = true := by
  have e : ((ByteArray.mk alph.toArray)[k].toNat : Int) = c := by simpa using he
  rw [← e, alph_idx]
  exact okc_at k (by rw [alph_size] at h; exact h)
theorem miss (k : Nat) (h : k < (ByteArray.mk alph.toArray).size) (c : Int) (hno : ∀ j, j < k → ((alph.getD j 0).toNat : Int) ≠ c) (he : (((ByteArray.mk alph.toArray)[k].toNat : Int) == c) = false) :
    ∀ j, j < k + 1 → ((alph.getD j 0).toNat : Int) ≠ c := by
  intro j hj
  by_cases hjk : j < k
  · exact hno j hjk
  · have : j = k := by omega
    subst this
    rw [alph_idx] at he
    simpa using he

/-- how many good bytes -/
def cnt (l : List UInt8) : Nat := (l.filter fun c => okc (c.toNat : Int)).length
def allOk (l : List UInt8) : Bool := l.all fun c => okc (c.toNat : Int)

theorem cnt_le (l : List UInt8) : cnt l ≤ l.length := List.length_filter_le _ _
theorem cnt_snoc (l : List UInt8) (c : UInt8) : cnt (l ++ [c]) = cnt l + if okc (c.toNat : Int) = true then 1 else 0 := by
  unfold cnt
  rw [List.filter_append, List.length_append]
  by_cases h : okc (c.toNat : Int) = true <;> simp [h]
theorem cnt_all (l : List UInt8) : (cnt l = l.length) ↔ allOk l = true := by
  unfold cnt allOk
  rw [List.length_filter_eq_length_iff, List.all_eq_true]
theorem allOk_snoc (l : List UInt8) (c : UInt8) : allOk (l ++ [c]) = (allOk l && okc (c.toNat : Int)) := by
  simp [allOk]

/-- what both sides answer -/
def good (l : List UInt8) : Bool := decide (1 ≤ l.length) && decide (l.length ≤ 128) && allOk l

theorem good_short {l : List UInt8} (h : l.length < 1) : good l = false := by simp [good]; omega
theorem good_long {l : List UInt8} (h : 128 < l.length) : good l = false := by simp [good]; omega
theorem good_bad {l : List UInt8} {k : Nat} (hk : k < l.length) (h : okc (l[k].toNat : Int) = false) : good l = false := by
  have : allOk l = false := by
    unfold allOk
    rw [List.all_eq_false]
    exact ⟨l[k], List.getElem_mem hk, by simp [h]⟩
  simp [good, this]
theorem good_yes {l : List UInt8} (h1 : 1 ≤ l.length) (h2 : l.length ≤ 128) (h : allOk l = true) : good l = true := by
  simp [good, h, h1, h2]

theorem model_full {l : List UInt8} {k n : Nat} (hk : l.length ≤ k) (hn : l.length = n) (h : (cnt (l.take k) : Int) = (n : Int)) (h1 : (1 : Int) ≤ (n : Int)) : decide ((n : Int) ≤ 128) = good l := by
  rw [List.take_of_length_le hk] at h
  have ha : allOk l = true := (cnt_all l).1 (by omega)
  by_cases h2 : n ≤ 128
  · rw [good_yes (by omega) (by omega) ha, decide_eq_true (by omega)]
  · rw [good_long (by omega), decide_eq_false (by omega)]
theorem model_less {l : List UInt8} {k n : Nat} (hk : l.length ≤ k) (hn : l.length = n) (h : ¬ (cnt (l.take k) : Int) = (n : Int)) : false = good l := by
  rw [List.take_of_length_le hk] at h
  have ha : allOk l = false := by
    rw [← Bool.not_eq_true]
    intro hc
    exact h (by rw [(cnt_all l).2 hc, hn])
  simp [good, ha]
theorem len_data (s : ByteArray) : s.data.toList.length = s.size := rfl
theorem allOk_all (l : List UInt8) (k : Nat) (hk : l.length ≤ k) (h : allOk (l.take k) = true) : allOk l = true := by
  rwa [List.take_of_length_le hk] at h

theorem take_snoc (s : ByteArray) (k : Nat) (h : k < s.size) : s.data.toList.take (k + 1) = s.data.toList.take k ++ [s[k]] := by
  rw [List.take_succ_eq_append_getElem (by simpa using h)]; rfl

end Go.Proofs.Qxb6604800aMods
