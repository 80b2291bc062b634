/-
  A SLICE OF STRINGS THAT CAME IN AND WAS READ AS DATA: what the walks are told of it ('Strs').
-/
import Derived.Test.Qxb6000467aModsBytesWalks
import Derived.ProofKit
import Derived.SliceStrings
namespace Go.Proofs.Qxb6000467aMods
open Go.ChangeShapes Go.WideShapes Go.ChangeAt Go.RowKit

theorem cells9 : Trym.prog.cellsOf 9 = 1 := by kernel_rfl

theorem strs_of {H : Type} {enc : TypeId × Value → H} {W : World} {a : Option Addr} {n c : Nat} {d : DataW H} {p : List MemPlace} (h : DataW.Trod enc Trym.prog W 0 (fun _ => true) true 22 (.slice a n c) d p) :
    ∃ ss, Strs W a n ss ∧ n ≤ maxLen := by
  obtain ⟨fuel, hf⟩ := h
  rcases open_strings Trym.underlying22 Trym.underlying9 cells9 hf with ⟨hcs, _⟩ | ⟨x, l, q, ss, hcs, _, hl, hm, hz, _, hcell, hws⟩
  · simp [Value.cells] at hcs
    obtain ⟨rfl, rfl, rfl⟩ := hcs
    exact ⟨[], ⟨rfl, fun s hs => (by cases hs), fun h => absurd h (Nat.lt_irrefl _)⟩, Nat.zero_le _⟩
  · simp [Value.cells] at hcs
    obtain ⟨rfl, rfl, rfl⟩ := hcs
    simp only [if_true] at hz
    refine ⟨ss.take n, ⟨?_, ?_, ?_⟩, by omega⟩
    · rw [List.length_take]; omega
    · intro s hs
      exact hws s (List.mem_of_mem_take hs)
    · intro h0
      obtain ⟨b, o, spot⟩ := x
      have hspot : spot = none := by simpa [Addr.add] using World.cell?_spot (hcell 0 (by omega))
      subst hspot
      refine ⟨b, o, rfl, World.block_lt_of_cell? _ _ (by simpa [add_plain] using hcell 0 (by omega)), fun j hj => ?_⟩
      have hc := hcell j (by omega)
      rw [add_plain] at hc
      rw [hc, List.getD_eq_getElem?_getD, List.getD_eq_getElem?_getD, List.getElem?_take, if_pos hj]
      rfl

end Go.Proofs.Qxb6000467aMods
