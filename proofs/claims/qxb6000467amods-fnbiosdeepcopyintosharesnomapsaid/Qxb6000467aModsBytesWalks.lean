/-
  THE WALKS of strsBytes and of the two bounds (zzBytes_..): what they read of a slice of strings ('Strs'), and that they only read.
-/
import Derived.Test.Qxb6000467aModsRows
import Derived.Test.Qxb6000467aModsMapLaws
namespace Go.Proofs.Qxb6000467aMods
open Go.RowKit Go.Maps
set_option linter.unusedVariables false

theorem ret_bool {a b : Bool} (h : a = b) : Ending.returned (.bool a) = .returned (.bool b) := by rw [h]

/-- A SLICE OF n STRINGS ss, AS THE WALKS WANT IT: an address is known only where there is an element. -/
structure Strs (w : World) (a : Option Addr) (n : Nat) (ss : List ByteArray) : Prop where
  len : ss.length = n
  fits : ∀ s ∈ ss, s.size ≤ maxLen
  cell : 0 < n → ∃ b o, a = some ⟨b, o, none⟩ ∧ b < w.heap.size ∧ ∀ j, j < n → w.cell? ⟨b, o + j, none⟩ = some (.string (ss.getD j ⟨#[]⟩))

theorem Strs.later {w w' : World} {a : Option Addr} {n : Nat} {ss : List ByteArray} (h : Strs w a n ss) (hb : Below w.heap.size w w') : Strs w' a n ss :=
  ⟨h.len, h.fits, fun h0 => by
    obtain ⟨b, o, rfl, hlt, hc⟩ := h.cell h0
    exact ⟨b, o, rfl, Nat.lt_of_lt_of_le hlt hb.size, fun j hj => cell_later hb (hc j hj)⟩⟩

theorem Strs.fit {w : World} {a : Option Addr} {n : Nat} {ss : List ByteArray} (h : Strs w a n ss) (j : Nat) : (ss.getD j ⟨#[]⟩).size ≤ maxLen := by
  by_cases hj : j < ss.length
  · rw [List.getD_eq_getElem?_getD, List.getElem?_eq_getElem hj]
    exact h.fits _ (List.getElem_mem hj)
  · rw [List.getD_eq_getElem?_getD, List.getElem?_eq_none (by omega)]
    exact Nat.zero_le _

/-- none of the strings is longer than 1 MiB -/
def Small (n : Nat) (ss : List ByteArray) : Prop := ∀ j, j < n → (ss.getD j ⟨#[]⟩).size ≤ 1048576

/-- WHAT A BOUND ANSWERS: a bool; where it is true, every string is of at most 1 MiB. (A definition of its own, so that the walk does not take it apart.) -/
def Bounded (ver sk sv : ByteArray) (kn vn : Nat) (ks vs : List ByteArray) (w : World) (e : Ending) (w' : World) : Prop :=
  ∃ b : Bool, e = .returned (.bool b) ∧ w = w' ∧ (b = true → ver.size ≤ 1048576 ∧ sk.size ≤ 1048576 ∧ sv.size ≤ 1048576 ∧ kn ≤ 1048576 ∧ vn ≤ 1048576 ∧ Small kn ks ∧ Small vn vs)
theorem Bounded.no {ver sk sv : ByteArray} {kn vn : Nat} {ks vs : List ByteArray} {w : World} {e : Ending} {w' : World} (he : e = .returned (.bool false)) (hw : w = w') : Bounded ver sk sv kn vn ks vs w e w' :=
  ⟨false, he, hw, fun h => by cases h⟩
theorem Bounded.yes {ver sk sv : ByteArray} {kn vn : Nat} {ks vs : List ByteArray} {w : World} {e : Ending} {w' : World} (he : e = .returned (.bool true)) (hw : w = w')
    (h1 : ver.size ≤ 1048576) (h2 : sk.size ≤ 1048576) (h3 : sv.size ≤ 1048576) (h4 : kn ≤ 1048576) (h5 : vn ≤ 1048576) (h6 : Small kn ks) (h7 : Small vn vs) : Bounded ver sk sv kn vn ks vs w e w' :=
  ⟨true, he, hw, fun _ => ⟨h1, h2, h3, h4, h5, h6, h7⟩⟩

theorem Small.snoc {n : Nat} {ss : List ByteArray} (h : Small n ss) (hk : (ss.getD n ⟨#[]⟩).size ≤ 1048576) : Small (n + 1) ss := by
  intro j hj
  by_cases e : j = n
  · subst e; exact hk
  · exact h j (by omega)

set_option maxHeartbeats 400000 in
theorem strs_any (a : Option Addr) (n c : Nat) (ss : List ByteArray) (w : World) (hS : Strs w a n ss) (hsm : Small n ss) (hn : n ≤ 1048576) :
    Calls Trym.prog 10 #[.slice a n c] w fun e w' => ∃ t : Int, e = .returned (.int .i64 t) ∧ 0 ≤ t ∧ t ≤ 4194304 ∧ w = w' := by
  have HS : Hid (Strs w a n ss) := hS
  have HM : Hid (Small n ss) := hsm
  clear hS hsm
  go_enter Trym.func10, Trym.ntmps10
  go_wp2
  go_loop [3, 4] (fun t i => ∃ (k : Nat) (x : Int), k ≤ n ∧ i = .int .i64 k ∧ t = .int .i64 x ∧ 0 ≤ x ∧ x ≤ 1048576) (fun _ i => n - (intOf i).toNat)
  case atStart => exact ⟨0, 0, Nat.zero_le _, rfl, rfl, by omega, by omega⟩
  case round =>
    obtain ⟨k, x, hk, rfl, rfl, hx0, hx1⟩ := hrel
    by_cases hlt : k < n
    · obtain ⟨b, o, rfl, _, hc⟩ := HS.out.cell (by omega)
      have hck := hc k hlt
      have hmk := HM.out k hlt
      obtain ⟨s, hs⟩ : ∃ s, s = ss.getD k ⟨#[]⟩ := ⟨_, rfl⟩
      rw [← hs] at hck hmk
      clear hs hc
      go_wp2
      · go_ret
        exact ⟨_, rfl, by omega, by omega, rfl⟩
      · go_round
        case rel => exact ⟨k + 1, _, by omega, by go_num, rfl, by omega, by omega⟩
        case measure => simp [intOf]; omega
    · go_wp2
      go_ret
      exact ⟨_, rfl, by omega, by omega, rfl⟩

set_option maxHeartbeats 1000000 in
theorem bound9 (ver sk sv : ByteArray) (nm : Bool) (ka va : Option Addr) (kn kc vn vc : Nat) (ks vs : List ByteArray) (w : World) (hver : ver.size ≤ maxLen) (hsk : sk.size ≤ maxLen) (hsv : sv.size ≤ maxLen) (hkn : kn ≤ maxLen) (hvn : vn ≤ maxLen)
    (hK : Strs w ka kn ks) (hV : Strs w va vn vs) :
    Calls Trym.prog 9 #[.string ver, .bool nm, .slice ka kn kc, .slice va vn vc, .string sk, .string sv] w fun e w' => Bounded ver sk sv kn vn ks vs w e w' := by
  have HK : Hid (Strs w ka kn ks) := hK
  have HV : Hid (Strs w va vn vs) := hV
  clear hK hV
  unfold maxLen at hver hsk hsv hkn hvn
  by_cases h1 : 1048576 < ver.size
  · go_enter Trym.func9, Trym.ntmps9
    go_wp2
    go_ret
    exact Bounded.no rfl rfl
  by_cases h2 : 1048576 < kn
  · go_enter Trym.func9, Trym.ntmps9
    go_wp2
    go_ret
    exact Bounded.no rfl rfl
  by_cases h3 : 1048576 < ver.size + kn
  · go_enter Trym.func9, Trym.ntmps9
    go_wp2
    go_ret
    exact Bounded.no rfl rfl
  go_enter Trym.func9, Trym.ntmps9
  go_wp2
  go_loop [13, 14] (fun t i => ∃ (k : Nat) (x : Int), k ≤ kn ∧ i = .int .i64 k ∧ t = .int .i64 x ∧ 0 ≤ x ∧ x ≤ 1048576 ∧ Small k ks) (fun _ i => kn - (intOf i).toNat)
  case atStart => exact ⟨0, _, Nat.zero_le _, rfl, rfl, by omega, by omega, fun j hj => absurd hj (Nat.not_lt_zero _)⟩
  case round =>
    obtain ⟨k, x, hk, rfl, rfl, hx0, hx1, hsm⟩ := hrel
    have HM : Hid (Small k ks) := hsm
    clear hsm
    by_cases hlt : k < kn
    · obtain ⟨b, o, rfl, _, hc⟩ := HK.out.cell (by omega)
      have hck := hc k hlt
      have hf := HK.out.fit k
      obtain ⟨s, hs⟩ : ∃ s, s = ks.getD k ⟨#[]⟩ := ⟨_, rfl⟩
      rw [← hs] at hck hf
      have HE : Hid (s = ks.getD k ⟨#[]⟩) := hs
      clear hs hc
      unfold maxLen at hf
      by_cases h4 : 1048576 < s.size
      · go_wp2
        go_ret
        exact Bounded.no rfl rfl
      by_cases h5 : 1048576 < x + (s.size : Int)
      · go_wp2
        go_ret
        exact Bounded.no rfl rfl
      go_wp2
      go_round
      case rel => exact ⟨k + 1, _, by omega, by go_num, rfl, by omega, by omega, HM.out.snoc (by rw [← HE.out]; omega)⟩
      case measure => simp [intOf]; omega
    · have HMK : Hid (Small kn ks) := fun j hj => HM.out j (by omega)
      clear HM
      by_cases h6 : 1048576 < vn
      · go_wp2
        go_ret
        exact Bounded.no rfl rfl
      by_cases h7 : 1048576 < x + (vn : Int)
      · go_wp2
        go_ret
        exact Bounded.no rfl rfl
      go_wp2
      go_loop [13, 15] (fun t i => ∃ (k : Nat) (x : Int), k ≤ vn ∧ i = .int .i64 k ∧ t = .int .i64 x ∧ 0 ≤ x ∧ x ≤ 1048576 ∧ Small k vs) (fun _ i => vn - (intOf i).toNat)
      case atStart => exact ⟨0, _, Nat.zero_le _, rfl, rfl, by omega, by omega, fun j hj => absurd hj (Nat.not_lt_zero _)⟩
      case round =>
        obtain ⟨q, y, hq, rfl, rfl, hy0, hy1, hsm⟩ := hrel
        have HM : Hid (Small q vs) := hsm
        clear hsm
        by_cases hlq : q < vn
        · obtain ⟨b, o, rfl, _, hc⟩ := HV.out.cell (by omega)
          have hck := hc q hlq
          have hf := HV.out.fit q
          obtain ⟨s, hs⟩ : ∃ s, s = vs.getD q ⟨#[]⟩ := ⟨_, rfl⟩
          rw [← hs] at hck hf
          have HE : Hid (s = vs.getD q ⟨#[]⟩) := hs
          clear hs hc
          unfold maxLen at hf
          by_cases h4 : 1048576 < s.size
          · go_wp2
            go_ret
            exact Bounded.no rfl rfl
          by_cases h5 : 1048576 < y + (s.size : Int)
          · go_wp2
            go_ret
            exact Bounded.no rfl rfl
          go_wp2
          go_round
          case rel => exact ⟨q + 1, _, by omega, by go_num, rfl, by omega, by omega, HM.out.snoc (by rw [← HE.out]; omega)⟩
          case measure => simp [intOf]; omega
        · have HMV : Hid (Small vn vs) := fun j hj => HM.out j (by omega)
          clear HM
          by_cases h8 : 1048576 < sk.size
          · go_wp2
            go_ret
            exact Bounded.no rfl rfl
          by_cases h9 : 1048576 < y + (sk.size : Int)
          · go_wp2
            go_ret
            exact Bounded.no rfl rfl
          by_cases h10 : 1048576 < sv.size
          · go_wp2
            go_ret
            exact Bounded.no rfl rfl
          by_cases h11 : 1048576 < y + (sk.size : Int) + (sv.size : Int)
          · go_wp2
            go_ret
            exact Bounded.no rfl rfl
          go_wp2
          go_ret
          exact Bounded.yes rfl rfl (by omega) (by omega) (by omega) (by omega) (by omega) HMK.out HMV.out

set_option maxHeartbeats 1000000 in
theorem bound14 (ver sk sv : ByteArray) (nm : Bool) (ka va : Option Addr) (kn kc vn vc : Nat) (ks vs : List ByteArray) (w : World) (hver : ver.size ≤ maxLen) (hsk : sk.size ≤ maxLen) (hsv : sv.size ≤ maxLen) (hkn : kn ≤ maxLen) (hvn : vn ≤ maxLen)
    (hK : Strs w ka kn ks) (hV : Strs w va vn vs) :
    Calls Trym.prog 14 #[.string ver, .bool nm, .slice ka kn kc, .slice va vn vc, .string sk, .string sv] w fun e w' => Bounded ver sk sv kn vn ks vs w e w' := by
  have HK : Hid (Strs w ka kn ks) := hK
  have HV : Hid (Strs w va vn vs) := hV
  clear hK hV
  unfold maxLen at hver hsk hsv hkn hvn
  by_cases h1 : 1048576 < ver.size
  · go_enter Trym.func14, Trym.ntmps14
    go_wp2
    go_ret
    exact Bounded.no rfl rfl
  by_cases h2 : 1048576 < kn
  · go_enter Trym.func14, Trym.ntmps14
    go_wp2
    go_ret
    exact Bounded.no rfl rfl
  by_cases h3 : 1048576 < ver.size + kn
  · go_enter Trym.func14, Trym.ntmps14
    go_wp2
    go_ret
    exact Bounded.no rfl rfl
  go_enter Trym.func14, Trym.ntmps14
  go_wp2
  go_loop [13, 14] (fun t i => ∃ (k : Nat) (x : Int), k ≤ kn ∧ i = .int .i64 k ∧ t = .int .i64 x ∧ 0 ≤ x ∧ x ≤ 1048576 ∧ Small k ks) (fun _ i => kn - (intOf i).toNat)
  case atStart => exact ⟨0, _, Nat.zero_le _, rfl, rfl, by omega, by omega, fun j hj => absurd hj (Nat.not_lt_zero _)⟩
  case round =>
    obtain ⟨k, x, hk, rfl, rfl, hx0, hx1, hsm⟩ := hrel
    have HM : Hid (Small k ks) := hsm
    clear hsm
    by_cases hlt : k < kn
    · obtain ⟨b, o, rfl, _, hc⟩ := HK.out.cell (by omega)
      have hck := hc k hlt
      have hf := HK.out.fit k
      obtain ⟨s, hs⟩ : ∃ s, s = ks.getD k ⟨#[]⟩ := ⟨_, rfl⟩
      rw [← hs] at hck hf
      have HE : Hid (s = ks.getD k ⟨#[]⟩) := hs
      clear hs hc
      unfold maxLen at hf
      by_cases h4 : 1048576 < s.size
      · go_wp2
        go_ret
        exact Bounded.no rfl rfl
      by_cases h5 : 1048576 < x + (s.size : Int)
      · go_wp2
        go_ret
        exact Bounded.no rfl rfl
      go_wp2
      go_round
      case rel => exact ⟨k + 1, _, by omega, by go_num, rfl, by omega, by omega, HM.out.snoc (by rw [← HE.out]; omega)⟩
      case measure => simp [intOf]; omega
    · have HMK : Hid (Small kn ks) := fun j hj => HM.out j (by omega)
      clear HM
      by_cases h6 : 1048576 < vn
      · go_wp2
        go_ret
        exact Bounded.no rfl rfl
      by_cases h7 : 1048576 < x + (vn : Int)
      · go_wp2
        go_ret
        exact Bounded.no rfl rfl
      go_wp2
      go_loop [13, 15] (fun t i => ∃ (k : Nat) (x : Int), k ≤ vn ∧ i = .int .i64 k ∧ t = .int .i64 x ∧ 0 ≤ x ∧ x ≤ 1048576 ∧ Small k vs) (fun _ i => vn - (intOf i).toNat)
      case atStart => exact ⟨0, _, Nat.zero_le _, rfl, rfl, by omega, by omega, fun j hj => absurd hj (Nat.not_lt_zero _)⟩
      case round =>
        obtain ⟨q, y, hq, rfl, rfl, hy0, hy1, hsm⟩ := hrel
        have HM : Hid (Small q vs) := hsm
        clear hsm
        by_cases hlq : q < vn
        · obtain ⟨b, o, rfl, _, hc⟩ := HV.out.cell (by omega)
          have hck := hc q hlq
          have hf := HV.out.fit q
          obtain ⟨s, hs⟩ : ∃ s, s = vs.getD q ⟨#[]⟩ := ⟨_, rfl⟩
          rw [← hs] at hck hf
          have HE : Hid (s = vs.getD q ⟨#[]⟩) := hs
          clear hs hc
          unfold maxLen at hf
          by_cases h4 : 1048576 < s.size
          · go_wp2
            go_ret
            exact Bounded.no rfl rfl
          by_cases h5 : 1048576 < y + (s.size : Int)
          · go_wp2
            go_ret
            exact Bounded.no rfl rfl
          go_wp2
          go_round
          case rel => exact ⟨q + 1, _, by omega, by go_num, rfl, by omega, by omega, HM.out.snoc (by rw [← HE.out]; omega)⟩
          case measure => simp [intOf]; omega
        · have HMV : Hid (Small vn vs) := fun j hj => HM.out j (by omega)
          clear HM
          by_cases h8 : 1048576 < sk.size
          · go_wp2
            go_ret
            exact Bounded.no rfl rfl
          by_cases h9 : 1048576 < y + (sk.size : Int)
          · go_wp2
            go_ret
            exact Bounded.no rfl rfl
          by_cases h10 : 1048576 < sv.size
          · go_wp2
            go_ret
            exact Bounded.no rfl rfl
          by_cases h11 : 1048576 < y + (sk.size : Int) + (sv.size : Int)
          · go_wp2
            go_ret
            exact Bounded.no rfl rfl
          go_wp2
          go_ret
          exact Bounded.yes rfl rfl (by omega) (by omega) (by omega) (by omega) (by omega) HMK.out HMV.out

end Go.Proofs.Qxb6000467aMods
