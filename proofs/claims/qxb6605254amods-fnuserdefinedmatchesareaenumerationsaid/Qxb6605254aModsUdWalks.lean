/-
  THE WALKS of userDefined and its kin.
-/
import Derived.Test.Qxb6605254aModsRows
import Derived.Test.Qxb6605254aModsPlain
import Derived.WalkKit
import Derived.WalkSpells
import Derived.WalkLawsBesides
import Derived.Deep.QuietTactic
import Derived.BigQuiet
namespace Go.Proofs.Qxb6605254aMods
open Go.RowKit

theorem ret_bool {a b : Bool} (h : a = b) : Ending.returned (.bool a) = .returned (.bool b) := by rw [h]
theorem ret_two {a b : Int} {p q : Bool} (h : a = b) (h' : p = q) : Ending.returned (.tuple #[.int .i32 a, .bool p]) = .returned (.tuple #[.int .i32 b, .bool q]) := by rw [h, h']
theorem grown_drewN {W w : World} (h : Grown W w) (n : Nat) : Grown W (w.drewN n) := h

set_option maxHeartbeats 400000 in
theorem ud_other (a : Option Addr) (n c : Nat) (w : World) (hn : ((n : Int) == 2) = false) :
    Calls Trym.prog 9 #[.slice a n c] w fun e w' => e = .returned (.tuple #[.int .i32 0, .bool false]) ∧ w' = w := by
  go_enter Trym.func9, Trym.ntmps9
  go_wp2
  go_ret2
  exact ⟨rfl, rfl⟩

set_option maxHeartbeats 400000 in
theorem ud_two (b off c : Nat) (l t : Int) (w : World) (l0 : 0 ≤ l) (l1 : l ≤ 255) (t0 : 0 ≤ t) (t1 : t ≤ 255)
    (c0 : w.cell? ⟨b, off, none⟩ = some (.int .u8 l)) (c1 : w.cell? ⟨b, off + 1, none⟩ = some (.int .u8 t)) :
    Calls Trym.prog 9 #[.slice (some ⟨b, off, none⟩) 2 c] w fun e w' => e = .returned (.tuple #[.int .i32 (udVal l t), .bool (udOk l t)]) ∧ ∃ n, w' = w.drewN n := by
  go_enter Trym.func9, Trym.ntmps9
  go_wp2
  go_quiet (fail)
  go_wp2
  all_goals
    go_ret2
    first
      | exact ⟨ret_two (udVal_1 (by omega)).symm (udOk_yes (by omega)).symm, nq, rfl⟩
      | exact ⟨ret_two (udVal_2 (by omega)).symm (udOk_yes (by omega)).symm, nq, rfl⟩
      | exact ⟨ret_two (udVal_3 (by omega) (by omega)).symm (udOk_yes (by omega)).symm, nq, rfl⟩
      | exact ⟨ret_two (udVal_4 (by omega) (by omega)).symm (udOk_yes (by omega)).symm, nq, rfl⟩
      | exact ⟨ret_two (udVal_0 (by omega)).symm (udOk_no (by omega)).symm, nq, rfl⟩

set_option maxHeartbeats 400000 in
theorem zud_other (a : Option Addr) (n c : Nat) (w : World) (hn : ((n : Int) == 2) = false) :
    Calls Trym.prog 6 #[.slice a n c] w fun e w' => e = .returned (.tuple #[.int .i32 0, .bool false]) ∧ w' = w := by
  go_enter Trym.func6, Trym.ntmps6
  go_wp2_with (go_at_call 9; refine (ud_other _ _ _ _ hn).mono ?_; rintro e w' ⟨rfl, rfl⟩)
  go_ret2
  exact ⟨rfl, rfl⟩

set_option maxHeartbeats 400000 in
theorem zud_two (b off c : Nat) (l t : Int) (w : World) (l0 : 0 ≤ l) (l1 : l ≤ 255) (t0 : 0 ≤ t) (t1 : t ≤ 255)
    (c0 : w.cell? ⟨b, off, none⟩ = some (.int .u8 l)) (c1 : w.cell? ⟨b, off + 1, none⟩ = some (.int .u8 t)) :
    Calls Trym.prog 6 #[.slice (some ⟨b, off, none⟩) 2 c] w fun e w' => e = .returned (.tuple #[.int .i32 (udVal l t), .bool (udOk l t)]) ∧ ∃ n, w' = w.drewN n := by
  go_enter Trym.func6, Trym.ntmps6
  go_wp2_with (go_at_call 9; refine (ud_two _ _ _ _ _ _ l0 l1 t0 t1 c0 c1).mono ?_; rintro e w' ⟨rfl, nq, rfl⟩)
  go_ret2
  exact ⟨rfl, nq, rfl⟩

set_option maxHeartbeats 400000 in
theorem two_any (l t : Int) (w : World) :
    Calls Trym.prog 7 #[.int .i64 l, .int .i64 t] w fun e w' => e = .returned (.bool (twoB l t)) ∧ w' = w := by
  by_cases h : 129 ≤ l ∧ l ≤ 254 ∧ 64 ≤ t ∧ t ≤ 254 ∧ t ≠ 127
  · rw [twoB_yes h]
    obtain ⟨h1, h2, h3, h4, h5⟩ := h
    go_enter Trym.func7, Trym.ntmps7
    go_wp2
    go_ret
    exact ⟨ret_bool (by simp [h5]), rfl⟩
  · rw [twoB_no h]
    go_enter Trym.func7, Trym.ntmps7
    go_wp2
    all_goals
      go_ret
      exact ⟨ret_bool (by first | rfl | omega | (simp; omega)), rfl⟩

end Go.Proofs.Qxb6605254aMods
