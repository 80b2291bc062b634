/-
  THE PLAIN LAW of mapASCII: no Go in sight: bytes from lo to hi are shifted; where the image does not meet lo..hi, nor any byte of the text, shifting the image back restores the text.
-/
import Derived.WalkKit
namespace Go.Proofs.Qxb6605345aMods

/-- one byte -/
def mb (lo hi sh : Int) (b : UInt8) : UInt8 := if lo ≤ (b.toNat : Int) ∧ (b.toNat : Int) ≤ hi then UInt8.ofNat ((b.toNat : Int) + sh).toNat else b

theorem mb_in {lo hi sh : Int} {b : UInt8} (h : lo ≤ (b.toNat : Int) ∧ (b.toNat : Int) ≤ hi) (h0 : 0 ≤ lo + sh) (h1 : hi + sh ≤ 255) : ((mb lo hi sh b).toNat : Int) = (b.toNat : Int) + sh := by
  unfold mb
  rw [if_pos h, UInt8.toNat_ofNat']
  omega
theorem mb_out {lo hi sh : Int} {b : UInt8} (h : ¬ (lo ≤ (b.toNat : Int) ∧ (b.toNat : Int) ≤ hi)) : mb lo hi sh b = b := by
  unfold mb
  rw [if_neg h]

/-- a text -/
def mstr (lo hi sh : Int) (s : ByteArray) : ByteArray := ⟨(s.data.toList.map (mb lo hi sh)).toArray⟩

theorem size_mstr (lo hi sh : Int) (s : ByteArray) : (mstr lo hi sh s).size = s.size := by
  show (s.data.toList.map (mb lo hi sh)).toArray.size = s.data.size
  simp

theorem mstr_at (lo hi sh : Int) (s : ByteArray) (k : Nat) (h : k < (mstr lo hi sh s).size) (h' : k < s.size) : (mstr lo hi sh s)[k] = mb lo hi sh s[k] := by
  have hk : k < (s.data.toList.map (mb lo hi sh)).length := by rw [List.length_map]; exact h'
  exact (List.getElem_map (mb lo hi sh) (l := s.data.toList) (i := k) (h := hk))

/-- no byte of lo..hi is left -/
theorem mb_gone {lo hi sh : Int} (b : UInt8) (h0 : 0 ≤ lo + sh) (h1 : hi + sh ≤ 255) (hd : hi < lo + sh ∨ hi + sh < lo) : ¬ (lo ≤ ((mb lo hi sh b).toNat : Int) ∧ ((mb lo hi sh b).toNat : Int) ≤ hi) := by
  by_cases h : lo ≤ (b.toNat : Int) ∧ (b.toNat : Int) ≤ hi
  · rw [mb_in h h0 h1]; omega
  · rw [mb_out h]; exact h

/-- there and back -/
theorem mb_back {lo hi sh : Int} (b : UInt8) (hl : 0 ≤ lo) (hh : hi ≤ 255) (h0 : 0 ≤ lo + sh) (h1 : hi + sh ≤ 255) (hb : ¬ (lo + sh ≤ (b.toNat : Int) ∧ (b.toNat : Int) ≤ hi + sh)) :
    mb (lo + sh) (hi + sh) (-sh) (mb lo hi sh b) = b := by
  by_cases h : lo ≤ (b.toNat : Int) ∧ (b.toNat : Int) ≤ hi
  · have e := mb_in (sh := sh) h h0 h1
    have e2 := mb_in (lo := lo + sh) (hi := hi + sh) (sh := -sh) (b := mb lo hi sh b) (by omega) (by omega) (by omega)
    apply UInt8.toNat.inj
    omega
  · rw [mb_out h, mb_out hb]

theorem mstr_back {lo hi sh : Int} (s : ByteArray) (hl : 0 ≤ lo) (hh : hi ≤ 255) (h0 : 0 ≤ lo + sh) (h1 : hi + sh ≤ 255)
    (hb : ∀ j (h : j < s.size), ¬ (lo + sh ≤ (s[j].toNat : Int) ∧ (s[j].toNat : Int) ≤ hi + sh)) : mstr (lo + sh) (hi + sh) (-sh) (mstr lo hi sh s) = s := by
  cases s with
  | mk d =>
    simp only [mstr, List.toList_toArray, List.map_map]
    congr 1
    have : d.toList.map (mb (lo + sh) (hi + sh) (-sh) ∘ mb lo hi sh) = d.toList := by
      refine (List.map_congr_left (g := id) fun b hm => ?_).trans (List.map_id _)
      obtain ⟨j, hj, rfl⟩ := List.getElem_of_mem hm
      have hj' : j < d.size := by simpa using hj
      exact mb_back _ hl hh h0 h1 (hb j hj')
    rw [this]

end Go.Proofs.Qxb6605345aMods
