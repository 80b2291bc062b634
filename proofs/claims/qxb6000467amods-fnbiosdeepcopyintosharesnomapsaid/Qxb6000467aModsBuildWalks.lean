/-
  THE WALKS of buildSettings, sameLookup, sameSettings.
-/
import Derived.Test.Qxb6000467aModsBytesWalks
namespace Go.Proofs.Qxb6000467aMods
open Go.RowKit Go.WideMaps Go.Maps
set_option linter.unusedVariables false

theorem law9 : Keyed Trym.prog 9 := string_keyed Trym.underlying9
theorem zero9 (w : World) : (zeroValue 9).run Trym.prog w = .ok (.string ⟨#[]⟩) w := by kernel_rfl

/-- the settings behind k rounds, as a datum -/
def bld (ks vs : List ByteArray) : Nat → DataW Unit
  | 0 => .map []
  | k + 1 => (bld ks vs k).put (.string (ks.getD k ⟨#[]⟩).data.toList) (.lit (.string (vs.getD k ⟨#[]⟩).data.toList))

/-- block b is a map[string]string of at most n entries that reads as D -/
def Owns (w : World) (b n : Nat) (D : DataW Unit) : Prop := w.ownsMap Trym.prog 9 (plainElem Trym.prog 9) b n D

set_option maxHeartbeats 400000 in
theorem build_nil (ka va : Option Addr) (kn kc vn vc : Nat) (w : World) :
    Calls Trym.prog 11 #[.bool true, .slice ka kn kc, .slice va vn vc] w fun e w' => e = .returned (.map none) ∧ w = w' := by
  go_enter Trym.func11, Trym.ntmps11
  go_wp2
  go_ret
  exact ⟨rfl, rfl⟩

set_option maxHeartbeats 400000 in
theorem build_map (ka va : Option Addr) (kn kc vn vc : Nat) (ks vs : List ByteArray) (w : World) (hkn : kn ≤ 1048576) (hvn : vn ≤ 1048576) (hK : Strs w ka kn ks) (hV : Strs w va vn vs) :
    Calls Trym.prog 11 #[.bool false, .slice ka kn kc, .slice va vn vc] w fun e w' => e = .returned (.map (some w.heap.size)) ∧ Owns w' w.heap.size kn (bld ks vs kn) ∧ Below w.heap.size w w' := by
  have HK : Hid (Strs w ka kn ks) := hK
  have HV : Hid (Strs w va vn vs) := hV
  clear hK hV
  have hmm := @run_makeMap Trym.prog
  go_enter Trym.func11, Trym.ntmps11
  go_wp2
  go_loopw [8] (fun i wr => ∃ k : Nat, k ≤ kn ∧ i = .int .i64 k ∧ wr.ownsMap Trym.prog 9 (plainElem Trym.prog 9) w.heap.size k (bld ks vs k) ∧ Below w.heap.size w wr) (fun i _ => kn - (intOf i).toNat)
  case atStart => exact ⟨0, Nat.zero_le _, rfl, World.ownsMap_made _ _ _ _, (Below.refl _ _).alloc (Nat.le_refl _) _⟩
  case round =>
    obtain ⟨k, hk, rfl, hown, hb⟩ := hrel
    by_cases hlt : k < kn
    · obtain ⟨kb, ko, rfl, _, hc⟩ := HK.out.cell (by omega)
      have hck := cell_later hb (hc k hlt)
      have hsf := HK.out.fit k
      obtain ⟨s, hs⟩ : ∃ s, s = ks.getD k ⟨#[]⟩ := ⟨_, rfl⟩
      rw [← hs] at hck hsf
      have HS : Hid (s = ks.getD k ⟨#[]⟩) := hs
      clear hs hc
      obtain ⟨v, hv⟩ : ∃ v, v = vs.getD k ⟨#[]⟩ := ⟨_, rfl⟩
      have hvf : v.size ≤ maxLen := by rw [hv]; exact HV.out.fit k
      have HE : Hid (v = vs.getD k ⟨#[]⟩) := hv
      clear hv
      by_cases hkv : k < vn
      · obtain ⟨vb, vo, rfl, _, hc⟩ := HV.out.cell (by omega)
        have hcv := cell_later hb (hc k hkv)
        rw [← HE.out] at hcv
        clear hc
        go_wp2_with (first
          | (at_mapUpdate; refine wpList_mapUpdate_own _ rfl _ _ _ 25 rfl 9 9 law9 Trym.underlying25 _ w.heap.size k _ rfl hown (by unfold maxLen; omega) _ _ _ rfl rfl (keyOf_string_mk Trym.underlying9 hsf) _ [] (plainElem_string Trym.underlying9 hvf) ?_; intro w1 hown1 hg1))
        go_roundw
        case rel =>
          refine ⟨k + 1, by omega, by go_num, ?_, hb.grown hg1 hb.size (fun j hj => by cases hj; exact Nat.le_refl _)⟩
          show w1.ownsMap _ _ _ _ _ ((bld ks vs k).put _ _)
          rw [← HS.out, ← HE.out]
          exact hown1
        case measure => simp [intOf]; omega
      · have hv0 : v = ⟨#[]⟩ := by
          rw [HE.out, List.getD_eq_getElem?_getD, List.getElem?_eq_none (by have := HV.out.len; omega)]; rfl
        subst hv0
        go_wp2_with (first
          | (at_mapUpdate; refine wpList_mapUpdate_own _ rfl _ _ _ 25 rfl 9 9 law9 Trym.underlying25 _ w.heap.size k _ rfl hown (by unfold maxLen; omega) _ _ _ rfl rfl (keyOf_string_mk Trym.underlying9 hsf) _ [] (plainElem_string Trym.underlying9 hvf) ?_; intro w1 hown1 hg1))
        go_roundw
        case rel =>
          refine ⟨k + 1, by omega, by go_num, ?_, hb.grown hg1 hb.size (fun j hj => by cases hj; exact Nat.le_refl _)⟩
          show w1.ownsMap _ _ _ _ _ ((bld ks vs k).put _ _)
          rw [← HS.out, ← HE.out]
          exact hown1
        case measure => simp [intOf]; omega
    · have e : k = kn := by omega
      subst e
      go_wp2
      go_ret
      exact ⟨rfl, hown, hb⟩

theorem same_at {D : DataW Unit} {kl : Lit} {c1 c2 : ByteArray} (h1 : D.atKey kl (.lit (.string [])) = .lit (.string c1.data.toList)) (h2 : D.atKey kl (.lit (.string [])) = .lit (.string c2.data.toList)) : c1 = c2 := by
  rw [h1] at h2
  injection h2 with h2
  injection h2 with h2
  exact bytes_eq h2

set_option maxHeartbeats 400000 in
theorem look_nils (k : ByteArray) (w : World) (hk : k.size ≤ maxLen) :
    Calls Trym.prog 26 #[.map none, .map none, .string k] w fun e w' => e = .returned (.bool true) ∧ w = w' := by
  have hl : ∀ W, (Instr.lookup 25 (.map none) (.string k) true).run Trym.prog W = .ok (.tuple #[.string ⟨#[]⟩, .bool false]) W := fun W => Maps.look_nil true law9 Trym.underlying25 (zero9 W) (keyOf_string_mk Trym.underlying9 hk)
  go_enter Trym.func26, Trym.ntmps26
  go_wp2
  go_ret
  exact ⟨rfl, rfl⟩

set_option maxHeartbeats 400000 in
theorem look_same (b1 b2 n1 n2 : Nat) (D : DataW Unit) (k : ByteArray) (w : World) (hk : k.size ≤ maxLen) (h1 : Owns w b1 n1 D) (h2 : Owns w b2 n2 D) :
    Calls Trym.prog 26 #[.map (some b1), .map (some b2), .string k] w fun e w' => e = .returned (.bool true) ∧ w = w' := by
  have hkey := keyOf_string_mk Trym.underlying9 hk
  have H1 : Hid (Owns w b1 n1 D) := h1
  have H2 : Hid (Owns w b2 n2 D) := h2
  clear h1 h2
  go_enter Trym.func26, Trym.ntmps26
  go_wp2_with (first
    | (at_lookup; refine wpList_look_string _ rfl (.tmp 12) (.tmp 13) 25 rfl 9 9 law9 Trym.underlying25 Trym.underlying9 (zero9 _) b1 n1 D rfl H1.out _ _ rfl hkey ?_; intro c1 hc1)
    | (at_lookup; refine wpList_look_string _ rfl (.tmp 18) (.tmp 19) 25 rfl 9 9 law9 Trym.underlying25 Trym.underlying9 (zero9 _) b2 n2 D rfl H2.out _ _ rfl hkey ?_; intro c2 hc2; obtain rfl : c1 = c2 := same_at hc1.out hc2.out))
  go_ret
  exact ⟨ret_bool (by simp), rfl⟩

set_option maxHeartbeats 400000 in
theorem same_nils (ka : Option Addr) (kn kc : Nat) (ks : List ByteArray) (p : ByteArray) (w : World) (hp : p.size ≤ maxLen) (hkn : kn ≤ 1048576) (hK : Strs w ka kn ks) :
    Calls Trym.prog 13 #[.map none, .map none, .slice ka kn kc, .string p] w fun e w' => e = .returned (.bool true) ∧ w = w' := by
  have HK : Hid (Strs w ka kn ks) := hK
  clear hK
  have hq : ∀ W, (binOp .eql 25 (.map none) (.map none)).run Trym.prog W = .ok (.bool true) W := fun W => by kernel_rfl
  have hl : ∀ W ty, (Builtin.len_ #[25] ty #[.map none]).run Trym.prog W = .ok (.int .i64 0) W := fun W ty => Maps.len_nil Trym.underlying25 ty
  go_enter Trym.func13, Trym.ntmps13
  go_wp2
  go_loop [9] (fun i => ∃ k : Nat, k ≤ kn ∧ i = .int .i64 k) (fun i => kn - (intOf i).toNat)
  case atStart => exact ⟨0, Nat.zero_le _, rfl⟩
  case round =>
    obtain ⟨k, hk, rfl⟩ := hrel
    by_cases hlt : k < kn
    · obtain ⟨kb, ko, rfl, _, hc⟩ := HK.out.cell (by omega)
      have hck := hc k hlt
      have hsf := HK.out.fit k
      obtain ⟨s, hs⟩ : ∃ s, s = ks.getD k ⟨#[]⟩ := ⟨_, rfl⟩
      rw [← hs] at hck hsf
      clear hs hc
      go_wp2_with (go_at_call 26; refine (look_nils s w hsf).mono ?_; rintro e w' ⟨rfl, rfl⟩)
      go_round
      case rel => exact ⟨k + 1, by omega, by go_num⟩
      case measure => simp [intOf]; omega
    · go_wp2_with (go_at_call 26; refine (look_nils p w hp).mono ?_; rintro e w' ⟨rfl, rfl⟩)
      go_ret
      exact ⟨rfl, rfl⟩

set_option maxHeartbeats 400000 in
theorem same_maps (b1 b2 n1 n2 : Nat) (D : DataW Unit) (ka : Option Addr) (kn kc : Nat) (ks : List ByteArray) (p : ByteArray) (w : World) (hp : p.size ≤ maxLen) (hkn : kn ≤ 1048576) (hK : Strs w ka kn ks) (h1 : Owns w b1 n1 D) (h2 : Owns w b2 n2 D) :
    Calls Trym.prog 13 #[.map (some b1), .map (some b2), .slice ka kn kc, .string p] w fun e w' => e = .returned (.bool true) ∧ w = w' := by
  have HK : Hid (Strs w ka kn ks) := hK
  have H1 : Hid (Owns w b1 n1 D) := h1
  have H2 : Hid (Owns w b2 n2 D) := h2
  clear hK h1 h2
  have hq : ∀ W b, (binOp .eql 25 (.map (some b)) (.map none)).run Trym.prog W = .ok (.bool false) W := fun W b => by kernel_rfl
  have hl1 : ∀ ty, (Builtin.len_ #[25] ty #[.map (some b1)]).run Trym.prog w = .ok (.int .i64 (Maps.size D)) w := fun ty => World.ownsMap.len H1.out Trym.underlying25 ty
  have hl2 : ∀ ty, (Builtin.len_ #[25] ty #[.map (some b2)]).run Trym.prog w = .ok (.int .i64 (Maps.size D)) w := fun ty => World.ownsMap.len H2.out Trym.underlying25 ty
  go_enter Trym.func13, Trym.ntmps13
  go_wp2
  go_loop [9] (fun i => ∃ k : Nat, k ≤ kn ∧ i = .int .i64 k) (fun i => kn - (intOf i).toNat)
  case atStart => exact ⟨0, Nat.zero_le _, rfl⟩
  case round =>
    obtain ⟨k, hk, rfl⟩ := hrel
    by_cases hlt : k < kn
    · obtain ⟨kb, ko, rfl, _, hc⟩ := HK.out.cell (by omega)
      have hck := hc k hlt
      have hsf := HK.out.fit k
      obtain ⟨s, hs⟩ : ∃ s, s = ks.getD k ⟨#[]⟩ := ⟨_, rfl⟩
      rw [← hs] at hck hsf
      clear hs hc
      go_wp2_with (go_at_call 26; refine (look_same b1 b2 n1 n2 D s w hsf H1.out H2.out).mono ?_; rintro e w' ⟨rfl, rfl⟩)
      go_round
      case rel => exact ⟨k + 1, by omega, by go_num⟩
      case measure => simp [intOf]; omega
    · go_wp2_with (go_at_call 26; refine (look_same b1 b2 n1 n2 D p w hp H1.out H2.out).mono ?_; rintro e w' ⟨rfl, rfl⟩)
      go_ret
      exact ⟨rfl, rfl⟩

end Go.Proofs.Qxb6000467aMods
