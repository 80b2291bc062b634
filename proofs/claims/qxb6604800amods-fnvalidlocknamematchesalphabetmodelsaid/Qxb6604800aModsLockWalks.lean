/-
  THE WALKS of the lock-name functions: each computes the plain function of Qxb6604800aModsPlain.
-/
import Derived.Test.Qxb6604800aModsRows
import Derived.Test.Qxb6604800aModsPlain
import Derived.WalkKit
import Derived.WalkSpells
import Derived.WalkLawsBesides
namespace Go.Proofs.Qxb6604800aMods
open Go.RowKit

theorem ret_bool {a b : Bool} (h : a = b) : Ending.returned (.bool a) = .returned (.bool b) := by rw [h]

set_option maxHeartbeats 400000 in
theorem allowed_any (c : Int) (w : World) (h0 : 0 ≤ c) (h1 : c ≤ 255) :
    Calls Trym.prog 12 #[.int .u8 c] w fun e w' => e = .returned (.bool (okc c)) ∧ w' = w := by
  go_enter Trym.func12, Trym.ntmps12
  go_wp2
  go_loop [3] (fun i => ∃ k : Nat, k ≤ 65 ∧ i = .int .i64 k ∧ ∀ j, j < k → ((alph.getD j 0).toNat : Int) ≠ c) (fun i => 65 - (intOf i).toNat)
  case atStart => exact ⟨0, Nat.zero_le _, rfl, fun j hj => absurd hj (Nat.not_lt_zero _)⟩
  case round =>
    obtain ⟨k, hk, rfl, hno⟩ := hrel
    have HN : Hid (∀ j, j < k → ((alph.getD j 0).toNat : Int) ≠ c) := hno
    clear hno
    by_cases hlt : k < 65
    · go_wp2
      · go_ret
        exact ⟨ret_bool (hit k (by rw [alph_size]; exact hlt) c ‹_›).symm, rfl⟩
      · go_round
        case rel => exact ⟨k + 1, by omega, by go_num, miss k (by rw [alph_size]; exact hlt) c HN.out ‹_›⟩
        case measure => simp [intOf]; omega
    · go_wp2
      go_ret
      exact ⟨ret_bool (okc_none c h0 h1 (fun j hj => HN.out j (by omega))).symm, rfl⟩

set_option maxHeartbeats 400000 in
theorem bytes_any (s : ByteArray) (w : World) (hs : s.size ≤ maxLen) :
    Calls Trym.prog 6 #[.string s] w fun e w' => e = .returned (.bool (decide (s.size ≤ 1048576))) ∧ w' = w := by
  unfold maxLen at hs
  by_cases h : s.size ≤ 1048576
  all_goals
    go_enter Trym.func6, Trym.ntmps6
    go_wp2
    go_ret
    exact ⟨ret_bool (by simp; omega), rfl⟩

set_option maxHeartbeats 400000 in
theorem model_any (s : ByteArray) (w : World) (hs : s.size ≤ 1048576) :
    Calls Trym.prog 8 #[.string s] w fun e w' => e = .returned (.bool (good s.data.toList)) ∧ w' = w := by
  go_enter Trym.func8, Trym.ntmps8
  go_wp2
  go_loop [3, 4] (fun n i => ∃ k : Nat, k ≤ s.size ∧ i = .int .i64 k ∧ n = .int .i64 (cnt (s.data.toList.take k) : Nat)) (fun _ i => s.size - (intOf i).toNat)
  case atStart => exact ⟨0, Nat.zero_le _, rfl, rfl⟩
  case round =>
    obtain ⟨k, hk, rfl, rfl⟩ := hrel
    have hd := cnt_le (s.data.toList.take k)
    have hl : (s.data.toList.take k).length ≤ k := List.length_take_le _ _
    by_cases hlt : k < s.size
    · have hsn := cnt_snoc (s.data.toList.take k) s[k]
      have hts := take_snoc s k hlt
      have HS : Hid (cnt (s.data.toList.take (k + 1)) = cnt (s.data.toList.take k) + if okc (s[k].toNat : Int) = true then 1 else 0) := by rw [hts]; exact hsn
      clear hsn hts
      have hb : (0 : Int) ≤ (s[k].toNat : Int) ∧ (s[k].toNat : Int) ≤ 255 := by have := s[k].toNat_lt; omega
      go_wp2_with (go_at_call 12; refine (allowed_any _ _ hb.1 hb.2).mono ?_; rintro e w' ⟨rfl, rfl⟩)
      · go_round
        case rel => exact ⟨k + 1, by omega, by go_num, by rw [HS.out, if_pos ‹_›]; go_num⟩
        case measure => simp [intOf]; omega
      · go_round
        case rel => exact ⟨k + 1, by omega, by go_num, by rw [HS.out, if_neg (by simp [*])]; go_num⟩
        case measure => simp [intOf]; omega
    · have hle : s.data.toList.length ≤ k := by rw [len_data]; omega
      go_wp2
      · go_ret
        exact ⟨ret_bool (model_full hle rfl ‹_› ‹_›), rfl⟩
      · go_ret
        exact ⟨ret_bool (good_short (by rw [len_data]; omega)).symm, rfl⟩
      · go_ret
        exact ⟨ret_bool (model_less hle rfl ‹_›), rfl⟩

set_option maxHeartbeats 400000 in
theorem valid_any (s : ByteArray) (w : World) (hs : s.size ≤ 1048576) :
    Calls Trym.prog 11 #[.string s] w fun e w' => e = .returned (.bool (good s.data.toList)) ∧ w' = w := by
  by_cases h1 : s.size < 1
  · go_enter Trym.func11, Trym.ntmps11
    go_wp2
    go_ret
    exact ⟨ret_bool (good_short (by rw [len_data]; omega)).symm, rfl⟩
  by_cases h2 : 128 < s.size
  · go_enter Trym.func11, Trym.ntmps11
    go_wp2
    go_ret
    exact ⟨ret_bool (good_long (by rw [len_data]; omega)).symm, rfl⟩
  go_enter Trym.func11, Trym.ntmps11
  go_wp2
  go_loop [16] (fun i => ∃ k : Nat, k ≤ s.size ∧ i = .int .i64 k ∧ allOk (s.data.toList.take k) = true) (fun i => s.size - (intOf i).toNat)
  case atStart => exact ⟨0, Nat.zero_le _, rfl, rfl⟩
  case round =>
    obtain ⟨k, hk, rfl, hall⟩ := hrel
    have HA : Hid (allOk (s.data.toList.take k) = true) := hall
    clear hall
    by_cases hlt : k < s.size
    · have HT : Hid (s.data.toList.take (k + 1) = s.data.toList.take k ++ [s[k]]) := take_snoc s k hlt
      have hk' : k < s.data.toList.length := hlt
      go_wp2
      all_goals first
        | (go_ret; exact ⟨ret_bool (good_bad hk' (okc_false (c := (s[k].toNat : Int)) (by first | omega | (simp at *; omega)))).symm, rfl⟩)
        | (go_round
           case rel => exact ⟨k + 1, by omega, by go_num, by rw [HT.out, allOk_snoc, HA.out, okc_true (by first | omega | (simp at *; omega))]; rfl⟩
           case measure => simp [intOf]; omega)
    · go_wp2
      go_ret
      exact ⟨ret_bool (good_yes (by rw [len_data]; omega) (by rw [len_data]; omega) (allOk_all _ k (by rw [len_data]; omega) HA.out)).symm, rfl⟩

set_option maxHeartbeats 400000 in
theorem zvalid_any (s : ByteArray) (w : World) (hs : s.size ≤ 1048576) :
    Calls Trym.prog 7 #[.string s] w fun e w' => e = .returned (.bool (good s.data.toList)) ∧ w' = w := by
  go_enter Trym.func7, Trym.ntmps7
  go_wp2_with (go_at_call 11; refine (valid_any _ _ hs).mono ?_; rintro e w' ⟨rfl, rfl⟩)
  go_ret
  exact ⟨rfl, rfl⟩

set_option maxHeartbeats 400000 in
theorem law_any (s : ByteArray) (w : World) (hs : s.size ≤ maxLen) :
    Calls Trym.prog 3 #[.string s] w fun e w' => e = .returned (.bool true) ∧ w' = w := by
  by_cases h : s.size ≤ 1048576
  · have hd : decide (s.size ≤ 1048576) = true := decide_eq_true h
    go_enter Trym.func3, Trym.ntmps3
    go_wp2_with (first | (go_at_call 6; refine (bytes_any _ _ hs).mono ?_; rintro e w' ⟨rfl, rfl⟩) | (go_at_call 7; refine (zvalid_any _ _ h).mono ?_; rintro e w' ⟨rfl, rfl⟩) | (go_at_call 8; refine (model_any _ _ h).mono ?_; rintro e w' ⟨rfl, rfl⟩))
    go_ret
    exact ⟨ret_bool (by simp), rfl⟩
  · have hd : decide (s.size ≤ 1048576) = false := decide_eq_false h
    go_enter Trym.func3, Trym.ntmps3
    go_wp2_with (first | (go_at_call 6; refine (bytes_any _ _ hs).mono ?_; rintro e w' ⟨rfl, rfl⟩))
    go_ret
    exact ⟨rfl, rfl⟩

end Go.Proofs.Qxb6604800aMods
