/-
  THE WALK of FnUserDefinedReachesEveryPUAPoint.
-/
import Derived.Test.Qxb6605254aModsUdWalks
namespace Go.Proofs.Qxb6605254aMods
open Go.RowKit

theorem area1 (k : Int) (h0 : 0 ≤ k) (h1 : k < 564) : twoB (170 + k / 94) (161 + k % 94) = true ∧ udOk (170 + k / 94) (161 + k % 94) = true ∧ udVal (170 + k / 94) (161 + k % 94) = 57344 + k :=
  ⟨twoB_yes (by omega), udOk_yes (by omega), by rw [udVal_1 (by omega)]; omega⟩
theorem area2 (k : Int) (h0 : 0 ≤ k) (h1 : k < 658) : twoB (248 + k / 94) (161 + k % 94) = true ∧ udOk (248 + k / 94) (161 + k % 94) = true ∧ udVal (248 + k / 94) (161 + k % 94) = 57908 + k :=
  ⟨twoB_yes (by omega), udOk_yes (by omega), by rw [udVal_2 (by omega)]; omega⟩
theorem area3 (k : Int) (h0 : 0 ≤ k) (h1 : k < 672) (h : 64 + k % 96 < 127) : twoB (161 + k / 96) (64 + k % 96) = true ∧ udOk (161 + k / 96) (64 + k % 96) = true ∧ udVal (161 + k / 96) (64 + k % 96) = 58566 + k :=
  ⟨twoB_yes (by omega), udOk_yes (by omega), by rw [udVal_4 (by omega) (by omega)]; omega⟩
theorem area4 (k : Int) (h0 : 0 ≤ k) (h1 : k < 672) (h : 127 ≤ 64 + k % 96) : twoB (161 + k / 96) (64 + k % 96 + 1) = true ∧ udOk (161 + k / 96) (64 + k % 96 + 1) = true ∧ udVal (161 + k / 96) (64 + k % 96 + 1) = 58566 + k :=
  ⟨twoB_yes (by omega), udOk_yes (by omega), by rw [udVal_3 (by omega) (by omega)]; omega⟩


theorem zud_new (l t : Int) (w : World) (l0 : 0 ≤ l) (l1 : l ≤ 255) (t0 : 0 ≤ t) (t1 : t ≤ 255) :
    Calls Trym.prog 6 #[.slice (some ⟨w.heap.size, 0, none⟩) 2 2] (w.alloc (.cells #[.int .u8 l, .int .u8 t] 5)) fun e w' =>
      e = .returned (.tuple #[.int .i32 (udVal l t), .bool (udOk l t)]) ∧ ∃ n, w' = (w.alloc (.cells #[.int .u8 l, .int .u8 t] 5)).drewN n :=
  zud_two _ 0 _ l t _ l0 l1 t0 t1 (by go_simp) (by go_simp)

set_option maxHeartbeats 400000 in
theorem reach_any (a : Int) (w : World) (h0 : -2147483648 ≤ a) (h1 : a ≤ 2147483647) :
    Calls Trym.prog 4 #[.int .i32 a] w fun e w' => e = .returned (.bool true) ∧ Grown w w' := by
  by_cases hlo : a < 57344
  · go_enter Trym.func4, Trym.ntmps4
    go_wp2
    go_ret
    exact ⟨rfl, Grown.refl _⟩
  by_cases hhi : 59237 < a
  · go_enter Trym.func4, Trym.ntmps4
    go_wp2
    go_ret
    exact ⟨rfl, Grown.refl _⟩
  by_cases hA : a - 57344 < 564
  · obtain ⟨e1, e2, e3⟩ := area1 (a - 57344) (by omega) hA
    rw [show 57344 + (a - 57344) = a by omega] at e3
    go_enter Trym.func4, Trym.ntmps4
    go_wp2_with (first | (go_at_call 7; refine (two_any _ _ _).mono ?_; rintro e w' ⟨rfl, rfl⟩) | (go_at_call 6; refine (zud_new _ _ _ (by omega) (by omega) (by omega) (by omega)).mono ?_; rintro e w' ⟨rfl, nq, rfl⟩))
    go_ret
    exact ⟨ret_bool (by simp), grown_drewN ((Grown.refl _).alloc _ _) _⟩
  by_cases hB : a - 57344 < 1222
  · obtain ⟨e1, e2, e3⟩ := area2 (a - 57344 - 564) (by omega) (by omega)
    rw [show 57908 + (a - 57344 - 564) = a by omega] at e3
    go_enter Trym.func4, Trym.ntmps4
    go_wp2_with (first | (go_at_call 7; refine (two_any _ _ _).mono ?_; rintro e w' ⟨rfl, rfl⟩) | (go_at_call 6; refine (zud_new _ _ _ (by omega) (by omega) (by omega) (by omega)).mono ?_; rintro e w' ⟨rfl, nq, rfl⟩))
    go_ret
    exact ⟨ret_bool (by simp), grown_drewN ((Grown.refl _).alloc _ _) _⟩
  by_cases hC : 64 + (a - 57344 - 1222) % 96 < 127
  · obtain ⟨e1, e2, e3⟩ := area3 (a - 57344 - 1222) (by omega) (by omega) hC
    rw [show 58566 + (a - 57344 - 1222) = a by omega] at e3
    go_enter Trym.func4, Trym.ntmps4
    go_wp2_with (first | (go_at_call 7; refine (two_any _ _ _).mono ?_; rintro e w' ⟨rfl, rfl⟩) | (go_at_call 6; refine (zud_new _ _ _ (by omega) (by omega) (by omega) (by omega)).mono ?_; rintro e w' ⟨rfl, nq, rfl⟩))
    go_ret
    exact ⟨ret_bool (by simp), grown_drewN ((Grown.refl _).alloc _ _) _⟩
  · have hD : 127 ≤ 64 + (a - 57344 - 1222) % 96 := by omega
    obtain ⟨e1, e2, e3⟩ := area4 (a - 57344 - 1222) (by omega) (by omega) hD
    rw [show 58566 + (a - 57344 - 1222) = a by omega] at e3
    go_enter Trym.func4, Trym.ntmps4
    go_wp2_with (first | (go_at_call 7; refine (two_any _ _ _).mono ?_; rintro e w' ⟨rfl, rfl⟩) | (go_at_call 6; refine (zud_new _ _ _ (by omega) (by omega) (by omega) (by omega)).mono ?_; rintro e w' ⟨rfl, nq, rfl⟩))
    go_ret
    exact ⟨ret_bool (by simp), grown_drewN ((Grown.refl _).alloc _ _) _⟩

end Go.Proofs.Qxb6605254aMods
