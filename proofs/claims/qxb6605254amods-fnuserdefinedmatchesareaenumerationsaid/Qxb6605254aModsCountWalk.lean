/-
  THE WALK of zzPUAByCounting: six loops; at a well-formed two-byte code it answers what userDefined's formula answers.
-/
import Derived.Test.Qxb6605254aModsUdWalks
namespace Go.Proofs.Qxb6605254aMods
open Go.RowKit

set_option maxHeartbeats 1000000 in
theorem count_any (l t : Int) (w : World) (l0 : 129 ≤ l) (l1 : l ≤ 254) (t0 : 64 ≤ t) (t1 : t ≤ 254) (t2 : t ≠ 127) :
    Calls Trym.prog 8 #[.int .i64 l, .int .i64 t] w fun e w' => e = .returned (.tuple #[.int .i32 (udVal l t), .bool (udOk l t)]) ∧ w' = w := by
  have T2 : Hid (t ≠ 127) := t2
  clear t2
  go_enter Trym.func8, Trym.ntmps8
  go_wp2
  go_loop [6, 7] (fun n i => ∃ x : Int, 170 ≤ x ∧ x ≤ 176 ∧ i = .int .i64 x ∧ n = .int .i32 (57344 + (x - 170) * 94) ∧ (l < 170 ∨ x ≤ l ∨ t < 161)) (fun _ i => (176 - intOf i).toNat)
  case atStart => exact ⟨170, by omega, by omega, rfl, rfl, by omega⟩
  case round =>
    obtain ⟨x, hx0, hx1, rfl, rfl, hno⟩ := hrel
    by_cases hx : x ≤ 175
    · go_wp2
      go_loop [6, 8] (fun n i => ∃ y : Int, 161 ≤ y ∧ y ≤ 255 ∧ i = .int .i64 y ∧ n = .int .i32 (57344 + (x - 170) * 94 + (y - 161)) ∧ (l < x ∨ x < l ∨ t < 161 ∨ y ≤ t)) (fun _ i => (255 - intOf i).toNat)
      case atStart => exact ⟨161, by omega, by omega, rfl, by go_num, by omega⟩
      case round =>
        obtain ⟨y, hy0, hy1, rfl, rfl, hno2⟩ := hrel
        by_cases hy : y ≤ 254
        · by_cases hxl : x = l
          · have b1 : (x == l) = true := by simp [hxl]
            have HX : Hid (x = l) := hxl
            clear hxl
            by_cases hyt : y = t
            · have b2 : (y == t) = true := by simp [hyt]
              have HY : Hid (y = t) := hyt
              clear hyt
              go_wp2
              go_ret2
              exact ⟨ret_two (by have := HX.out; have := HY.out; rw [udVal_1 (by omega)]; omega) (udOk_yes (by have := HX.out; have := HY.out; omega)).symm, rfl⟩
            · have b2 : (y == t) = false := by simp [hyt]
              have HY : Hid (¬ y = t) := hyt
              clear hyt
              go_wp2
              go_round
              case rel => exact ⟨y + 1, by omega, by omega, by go_num, by go_num, by have := HX.out; have := HY.out; omega⟩
              case measure => simp [intOf]; omega
          · have b1 : (x == l) = false := by simp [hxl]
            have HX : Hid (¬ x = l) := hxl
            clear hxl
            go_wp2
            go_round
            case rel => exact ⟨y + 1, by omega, by omega, by go_num, by go_num, by have := HX.out; omega⟩
            case measure => simp [intOf]; omega
        · go_wp2
          go_round
          case rel => exact ⟨x + 1, by omega, by omega, by go_num, by go_num, by omega⟩
          case measure => simp [intOf]; omega
    · have hn1 : l < 170 ∨ 175 < l ∨ t < 161 := by omega
      have he1 : x = 176 := by omega
      subst he1
      clear hno hx hx0 hx1
      go_wp2
      go_loop [6, 9] (fun n i => ∃ x : Int, 248 ≤ x ∧ x ≤ 255 ∧ i = .int .i64 x ∧ n = .int .i32 (57908 + (x - 248) * 94) ∧ (l < 248 ∨ x ≤ l ∨ t < 161)) (fun _ i => (255 - intOf i).toNat)
      case atStart => exact ⟨248, by omega, by omega, rfl, rfl, by omega⟩
      case round =>
        obtain ⟨x, hx0, hx1, rfl, rfl, hno⟩ := hrel
        by_cases hx : x ≤ 254
        · go_wp2
          go_loop [6, 10] (fun n i => ∃ y : Int, 161 ≤ y ∧ y ≤ 255 ∧ i = .int .i64 y ∧ n = .int .i32 (57908 + (x - 248) * 94 + (y - 161)) ∧ (l < x ∨ x < l ∨ t < 161 ∨ y ≤ t)) (fun _ i => (255 - intOf i).toNat)
          case atStart => exact ⟨161, by omega, by omega, rfl, by go_num, by omega⟩
          case round =>
            obtain ⟨y, hy0, hy1, rfl, rfl, hno2⟩ := hrel
            by_cases hy : y ≤ 254
            · by_cases hxl : x = l
              · have b1 : (x == l) = true := by simp [hxl]
                have HX : Hid (x = l) := hxl
                clear hxl
                by_cases hyt : y = t
                · have b2 : (y == t) = true := by simp [hyt]
                  have HY : Hid (y = t) := hyt
                  clear hyt
                  go_wp2
                  go_ret2
                  exact ⟨ret_two (by have := HX.out; have := HY.out; rw [udVal_2 (by omega)]; omega) (udOk_yes (by have := HX.out; have := HY.out; omega)).symm, rfl⟩
                · have b2 : (y == t) = false := by simp [hyt]
                  have HY : Hid (¬ y = t) := hyt
                  clear hyt
                  go_wp2
                  go_round
                  case rel => exact ⟨y + 1, by omega, by omega, by go_num, by go_num, by have := HX.out; have := HY.out; omega⟩
                  case measure => simp [intOf]; omega
              · have b1 : (x == l) = false := by simp [hxl]
                have HX : Hid (¬ x = l) := hxl
                clear hxl
                go_wp2
                go_round
                case rel => exact ⟨y + 1, by omega, by omega, by go_num, by go_num, by have := HX.out; omega⟩
                case measure => simp [intOf]; omega
            · go_wp2
              go_round
              case rel => exact ⟨x + 1, by omega, by omega, by go_num, by go_num, by omega⟩
              case measure => simp [intOf]; omega
        · have hn2 : l < 248 ∨ 254 < l ∨ t < 161 := by omega
          have he2 : x = 255 := by omega
          subst he2
          clear hno hx hx0 hx1
          go_wp2
          go_loop [6, 11] (fun n i => ∃ x : Int, 161 ≤ x ∧ x ≤ 168 ∧ i = .int .i64 x ∧ n = .int .i32 (58566 + (x - 161) * 96) ∧ (l < 161 ∨ x ≤ l ∨ 160 < t)) (fun _ i => (168 - intOf i).toNat)
          case atStart => exact ⟨161, by omega, by omega, rfl, rfl, by omega⟩
          case round =>
            obtain ⟨x, hx0, hx1, rfl, rfl, hno⟩ := hrel
            by_cases hx : x ≤ 167
            · go_wp2
              go_loop [6, 12] (fun n i => ∃ y v : Int, 64 ≤ y ∧ y ≤ 161 ∧ i = .int .i64 y ∧ n = .int .i32 v ∧ (y ≤ 127 ∧ v = 58566 + (x - 161) * 96 + (y - 64) ∨ 127 < y ∧ v = 58566 + (x - 161) * 96 + (y - 65)) ∧ (l < x ∨ x < l ∨ y ≤ t)) (fun _ i => (161 - intOf i).toNat)
              case atStart => exact ⟨64, _, by omega, by omega, rfl, rfl, by omega, by omega⟩
              case round =>
                obtain ⟨y, v, hy0, hy1, rfl, rfl, hv, hno2⟩ := hrel
                have hv0 : 0 ≤ v ∧ v ≤ 70000 := by omega
                have HV : Hid (y ≤ 127 ∧ v = 58566 + (x - 161) * 96 + (y - 64) ∨ 127 < y ∧ v = 58566 + (x - 161) * 96 + (y - 65)) := hv
                clear hv
                obtain ⟨hv1, hv2⟩ := hv0
                by_cases hy : y ≤ 160
                · by_cases h127 : y = 127
                  · have b0 : (y == 127) = true := by simp [h127]
                    have H7 : Hid (y = 127) := h127
                    clear h127
                    go_wp2
                    go_round
                    case rel => exact ⟨y + 1, v, by omega, by omega, by go_num, rfl, by have := HV.out; have := H7.out; omega, by have := H7.out; have := T2.out; omega⟩
                    case measure => simp [intOf]; omega
                  · have b0 : (y == 127) = false := by simp [h127]
                    have H7 : Hid (¬ y = 127) := h127
                    clear h127
                    by_cases hxl : x = l
                    · have b1 : (x == l) = true := by simp [hxl]
                      have HX : Hid (x = l) := hxl
                      clear hxl
                      by_cases hyt : y = t
                      · have b2 : (y == t) = true := by simp [hyt]
                        have HY : Hid (y = t) := hyt
                        clear hyt
                        go_wp2
                        go_ret2
                        exact ⟨ret_two (by
                          have := HX.out; have := HY.out; have := HV.out; have := H7.out
                          by_cases h : 127 < t
                          · rw [udVal_3 (by omega) h]; omega
                          · rw [udVal_4 (by omega) h]; omega) (udOk_yes (by have := HX.out; have := HY.out; omega)).symm, rfl⟩
                      · have b2 : (y == t) = false := by simp [hyt]
                        have HY : Hid (¬ y = t) := hyt
                        clear hyt
                        go_wp2
                        go_round
                        case rel => exact ⟨y + 1, v + 1, by omega, by omega, by go_num, by go_num, by have := HV.out; have := H7.out; omega, by have := HX.out; have := HY.out; omega⟩
                        case measure => simp [intOf]; omega
                    · have b1 : (x == l) = false := by simp [hxl]
                      have HX : Hid (¬ x = l) := hxl
                      clear hxl
                      go_wp2
                      go_round
                      case rel => exact ⟨y + 1, v + 1, by omega, by omega, by go_num, by go_num, by have := HV.out; have := H7.out; omega, by have := HX.out; omega⟩
                      case measure => simp [intOf]; omega
                · have hv3 : v = 58566 + (x + 1 - 161) * 96 := by have := HV.out; omega
                  subst hv3
                  go_wp2
                  go_round
                  case rel => exact ⟨x + 1, by omega, by omega, by go_num, by go_num, by omega⟩
                  case measure => simp [intOf]; omega
            · go_wp2
              go_ret2
              exact ⟨ret_two (udVal_0 (by omega)).symm (udOk_no (by omega)).symm, rfl⟩

end Go.Proofs.Qxb6605254aMods
