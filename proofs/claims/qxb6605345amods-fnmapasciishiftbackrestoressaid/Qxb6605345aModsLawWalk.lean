/-
  THE WALK of FnMapASCIIShiftBackRestores.
-/
import Derived.Test.Qxb6605345aModsMapWalk
namespace Go.Proofs.Qxb6605345aMods
open Go.RowKit
set_option linter.unusedVariables false

/-- the law's own tests send the input away -/
theorem law_away (s : ByteArray) (lo hi sh : Int) (w : World) (hs : s.size ≤ maxLen) (l0 : 0 ≤ lo) (l1 : lo ≤ 255) (h0 : 0 ≤ hi) (h1 : hi ≤ 255)
    (h : ¬ s.size ≤ 1048576 ∨ hi < lo ∨ sh < -255 ∨ 255 < sh ∨ lo + sh < 0 ∨ 255 < hi + sh ∨ (lo + sh ≤ hi ∧ lo ≤ hi + sh)) :
    Calls Trym.prog 5 #[.string s, .int .u8 lo, .int .u8 hi, .int .i64 sh] w fun e w' => e = .returned (.bool true) ∧ Below w.heap.size w w' := by
  by_cases c1 : s.size ≤ 1048576
  · have hd : decide (s.size ≤ 1048576) = true := decide_eq_true c1
    by_cases c2 : hi < lo
    · clear h
      go_enter Trym.func5, Trym.ntmps5
      go_wp2_with (first | (go_at_call 12; refine (bytes_any _ _ _ _ _ hs).mono ?_; rintro e w' ⟨rfl, rfl⟩))
      go_ret
      exact ⟨rfl, Below.refl _ _⟩
    by_cases c3 : sh < -255
    · clear h
      go_enter Trym.func5, Trym.ntmps5
      go_wp2_with (first | (go_at_call 12; refine (bytes_any _ _ _ _ _ hs).mono ?_; rintro e w' ⟨rfl, rfl⟩))
      go_ret
      exact ⟨rfl, Below.refl _ _⟩
    by_cases c4 : 255 < sh
    · clear h
      go_enter Trym.func5, Trym.ntmps5
      go_wp2_with (first | (go_at_call 12; refine (bytes_any _ _ _ _ _ hs).mono ?_; rintro e w' ⟨rfl, rfl⟩))
      go_ret
      exact ⟨rfl, Below.refl _ _⟩
    by_cases c5 : lo + sh < 0
    · clear h
      go_enter Trym.func5, Trym.ntmps5
      go_wp2_with (first | (go_at_call 12; refine (bytes_any _ _ _ _ _ hs).mono ?_; rintro e w' ⟨rfl, rfl⟩))
      go_ret
      exact ⟨rfl, Below.refl _ _⟩
    by_cases c6 : 255 < hi + sh
    · clear h
      go_enter Trym.func5, Trym.ntmps5
      go_wp2_with (first | (go_at_call 12; refine (bytes_any _ _ _ _ _ hs).mono ?_; rintro e w' ⟨rfl, rfl⟩))
      go_ret
      exact ⟨rfl, Below.refl _ _⟩
    · have c7 : decide (hi < lo + sh) = false := decide_eq_false (by omega)
      have c8 : decide (hi + sh < lo) = false := decide_eq_false (by omega)
      clear h
      go_enter Trym.func5, Trym.ntmps5
      go_wp2_with (first | (go_at_call 12; refine (bytes_any _ _ _ _ _ hs).mono ?_; rintro e w' ⟨rfl, rfl⟩))
      go_ret
      exact ⟨rfl, Below.refl _ _⟩
  · have hd : decide (s.size ≤ 1048576) = false := decide_eq_false c1
    clear h
    go_enter Trym.func5, Trym.ntmps5
    go_wp2_with (first | (go_at_call 12; refine (bytes_any _ _ _ _ _ hs).mono ?_; rintro e w' ⟨rfl, rfl⟩))
    go_ret
    exact ⟨rfl, Below.refl _ _⟩

theorem zmap_o (s : ByteArray) (lo hi sh : Int) (w : World) (hs : s.size ≤ 1048576) (l0 : 0 ≤ lo) (l1 : lo ≤ 255) (h0 : 0 ≤ hi) (h1 : hi ≤ 255) (s0 : -255 ≤ sh) (s1 : sh ≤ 255) (n0 : 0 ≤ lo + sh) (n1 : hi + sh ≤ 255) :
    Calls Trym.prog 13 #[.string s, .int .u8 lo, .int .u8 hi, .int .i64 sh] w fun e w' => ∃ o, e = .returned (.string o) ∧ Hid (o = mstr lo hi sh s) ∧ o.size = s.size ∧ Below w.heap.size w w' :=
  (zmap_any s lo hi sh w hs l0 l1 h0 h1 s0 s1 n0 n1).mono fun _ _ ⟨he, hb⟩ => ⟨_, he, rfl, size_mstr _ _ _ _, hb⟩

theorem zmap_to (o s : ByteArray) (lo hi sh : Int) (w : World) (he : mstr lo hi sh o = s) (hs : o.size ≤ 1048576) (l0 : 0 ≤ lo) (l1 : lo ≤ 255) (h0 : 0 ≤ hi) (h1 : hi ≤ 255) (s0 : -255 ≤ sh) (s1 : sh ≤ 255) (n0 : 0 ≤ lo + sh) (n1 : hi + sh ≤ 255) :
    Calls Trym.prog 13 #[.string o, .int .u8 lo, .int .u8 hi, .int .i64 sh] w fun e w' => e = .returned (.string s) ∧ Below w.heap.size w w' := by
  subst he
  exact zmap_any o lo hi sh w hs l0 l1 h0 h1 s0 s1 n0 n1

set_option maxHeartbeats 1000000 in
theorem law_main (s : ByteArray) (lo hi sh : Int) (w : World) (hs : s.size ≤ 1048576) (l0 : 0 ≤ lo) (l1 : lo ≤ 255) (h0 : 0 ≤ hi) (h1 : hi ≤ 255) (c2 : lo ≤ hi) (s0 : -255 ≤ sh) (s1 : sh ≤ 255) (n0 : 0 ≤ lo + sh) (n1 : hi + sh ≤ 255)
    (hdis : hi < lo + sh ∨ hi + sh < lo) :
    Calls Trym.prog 5 #[.string s, .int .u8 lo, .int .u8 hi, .int .i64 sh] w fun e w' => e = .returned (.bool true) ∧ Below w.heap.size w w' := by
  have hd : decide (s.size ≤ 1048576) = true := decide_eq_true hs
  have hm : s.size ≤ maxLen := by unfold maxLen; omega
  have HD : Hid (hi < lo + sh ∨ hi + sh < lo) := hdis
  have e : decide (hi < lo + sh) = true ∨ (decide (hi < lo + sh) = false ∧ decide (hi + sh < lo) = true) := by
    by_cases d1 : hi < lo + sh
    · exact .inl (decide_eq_true d1)
    · exact .inr ⟨decide_eq_false d1, decide_eq_true (by omega)⟩
  rcases e with e1 | ⟨e1, e2⟩
  all_goals
    clear hdis
    go_enter Trym.func5, Trym.ntmps5
    go_wp2_with (first | (go_at_call 12; refine (bytes_any _ _ _ _ _ hm).mono ?_; rintro e w' ⟨rfl, rfl⟩))
    go_loop [11] (fun i => ∃ k : Nat, k ≤ s.size ∧ i = .int .i64 k ∧ ∀ j (h : j < s.size), j < k → ¬ (lo + sh ≤ (s[j].toNat : Int) ∧ (s[j].toNat : Int) ≤ hi + sh)) (fun i => s.size - (intOf i).toNat)
    case atStart => exact ⟨0, Nat.zero_le _, rfl, fun j _ hj => absurd hj (Nat.not_lt_zero _)⟩
    case round =>
      obtain ⟨k, hk, rfl, hno⟩ := hrel
      have HN : Hid (∀ j (h : j < s.size), j < k → ¬ (lo + sh ≤ (s[j].toNat : Int) ∧ (s[j].toNat : Int) ≤ hi + sh)) := hno
      clear hno
      by_cases hlt : k < s.size
      · have hb : (0 : Int) ≤ (s[k].toNat : Int) ∧ (s[k].toNat : Int) ≤ 255 := by have := s[k].toNat_lt; omega
        obtain ⟨b0, b1⟩ := hb
        go_wp2
        all_goals first
          | (go_ret; exact ⟨rfl, Below.refl _ _⟩)
          | (go_round
             case rel => exact ⟨k + 1, by omega, by go_num, fun j h hj => by
               by_cases hjk : j < k
               · exact HN.out j h hjk
               · have e : j = k := by omega
                 subst e
                 omega⟩
             case measure => simp [intOf]; omega)
      · have HB : Hid (∀ j (h : j < s.size), ¬ (lo + sh ≤ (s[j].toNat : Int) ∧ (s[j].toNat : Int) ≤ hi + sh)) := fun j h => HN.out j h (by omega)
        clear HN
        go_wp2_with (go_at_call 13; refine (zmap_o _ _ _ _ _ hs l0 l1 h0 h1 s0 s1 n0 n1).mono ?_; rintro e w1 ⟨o, rfl, HO, hsz, hb1⟩)
        go_loop [14] (fun i => ∃ k : Nat, k ≤ s.size ∧ i = .int .i64 k) (fun i => s.size - (intOf i).toNat)
        case atStart => exact ⟨0, Nat.zero_le _, rfl⟩
        case round =>
          obtain ⟨q, hq, rfl⟩ := hrel
          by_cases hlq : q < s.size
          · have hg : ¬ (lo ≤ ((o[q]'(by omega)).toNat : Int) ∧ ((o[q]'(by omega)).toNat : Int) ≤ hi) := by
              have e := HO.out
              subst e
              rw [mstr_at lo hi sh s q (by omega) hlq]
              exact mb_gone _ n0 n1 HD.out
            by_cases g1 : lo ≤ ((o[q]'(by omega)).toNat : Int)
            all_goals
              have g2 : ((o[q]'(by omega)).toNat : Int) < lo ∨ hi < ((o[q]'(by omega)).toNat : Int) := by omega
              clear hg
              go_wp2
              go_round
              case rel => exact ⟨q + 1, by omega, by go_num⟩
              case measure => simp [intOf]; omega
          · have hback : mstr (lo + sh) (hi + sh) (-sh) o = s := by
              rw [HO.out]
              exact mstr_back s l0 h1 n0 n1 HB.out
            have HK : Hid (mstr (lo + sh) (hi + sh) (-sh) o = s) := hback
            clear hback
            go_wp2_with (go_at_call 13; refine (zmap_to o s (lo + sh) (hi + sh) (-sh) _ HK.out (by omega) (by omega) (by omega) (by omega) (by omega) (by omega) (by omega) (by omega) (by omega)).mono ?_; rintro e w2 ⟨rfl, hb2⟩)
            go_ret
            exact ⟨rfl, hb1.trans (hb2.mono hb1.size)⟩

end Go.Proofs.Qxb6605345aMods
