/-
  THE WALK of FnBIOSDeepCopyIntoCopiesExactly. A map[string]string is '.map r': nil (r = none) or a block that reads as a datum ('Sett').
-/
import Derived.Test.Qxb6000467aModsCopyWalks
namespace Go.Proofs.Qxb6000467aMods
open Go.RowKit Go.WideMaps Go.Maps
set_option linter.unusedVariables false

/-- where it is not nil, the map reads as D -/
def Sett (w : World) (r : Option Nat) (n : Nat) (D : DataW Unit) : Prop := ∀ b, r = some b → Owns w b n D

theorem Sett.kept {w w' : World} {r : Option Nat} {n : Nat} {D : DataW Unit} {row : Option Nat} (h : Sett w r n D) (hg : w.grownBy w' row) (hne : ∀ b, r = some b → some b ≠ row) : Sett w' r n D :=
  fun b hb => World.ownsMap.kept (h b hb) hg (hne b hb)

theorem build_any (nm : Bool) (ka va : Option Addr) (kn kc vn vc : Nat) (ks vs : List ByteArray) (w : World) (hkn : kn ≤ 1048576) (hvn : vn ≤ 1048576) (hK : Strs w ka kn ks) (hV : Strs w va vn vs) :
    Calls Trym.prog 11 #[.bool nm, .slice ka kn kc, .slice va vn vc] w fun e w' => ∃ r, e = .returned (.map r) ∧ Hid (r.isNone = nm ∧ (∀ b, r = some b → w.heap.size ≤ b) ∧ Sett w' r kn (bld ks vs kn)) ∧ Below w.heap.size w w' := by
  cases nm
  · exact (build_map ka va kn kc vn vc ks vs w hkn hvn hK hV).mono fun e w' ⟨he, ho, hb⟩ => ⟨_, he, ⟨rfl, fun b hb => (by cases hb; exact Nat.le_refl _), fun b hb => (by cases hb; exact ho)⟩, hb⟩
  · exact (build_nil ka va kn kc vn vc w).mono fun e w' ⟨he, hw⟩ => ⟨_, he, ⟨rfl, fun b hb => (by cases hb), fun b hb => (by cases hb)⟩, by rw [hw]; exact Below.refl _ _⟩

theorem copy_any (bi bo : Nat) (r : Option Nat) (n : Nat) (D : DataW Unit) (ver sv : ByteArray) (om : Value) (w : World) (hne : bi ≠ bo) (hi : Bios w bi ver (.map r)) (ho : Bios w bo sv om) (hown : Sett w r n D) (hmo : ∀ b, r = some b → b ≠ bo) (hn : n ≤ 1048576) :
    Calls Trym.prog 12 #[.pointer (some ⟨bi, 0, none⟩), .pointer (some ⟨bo, 0, none⟩)] w fun e w' => e = .returned (.tuple #[]) ∧ ∃ q : Option Nat, Hid (q.isNone = r.isNone ∧ (∀ b, q = some b → w.heap.size ≤ b) ∧ Sett w' q n D ∧ Bios w' bo ver (.map q) ∧ w.grownBy w' (some bo)) := by
  cases r with
  | none => exact (copy_nil bi bo ver sv om w hne hi ho).mono fun e w' ⟨he, hb, hg⟩ => ⟨he, none, rfl, fun b hb => (by cases hb), fun b hb => (by cases hb), hb, hg⟩
  | some b0 => exact (copy_map bi bo b0 n D ver sv om w hne hi ho (hown b0 rfl) (hmo b0 rfl) hn).mono fun e w' ⟨he, hb, hw, hg⟩ => ⟨he, some w.heap.size, rfl, fun b hb => (by cases hb; exact Nat.le_refl _), fun b hb => (by cases hb; exact World.ownsMap.mono hw (World.ownsMap.size_le (hown b0 rfl))), hb, hg⟩

theorem same_any (r1 r2 : Option Nat) (n1 n2 : Nat) (D : DataW Unit) (ka : Option Addr) (kn kc : Nat) (ks : List ByteArray) (p : ByteArray) (w : World) (hr : r1.isNone = r2.isNone) (hp : p.size ≤ maxLen) (hkn : kn ≤ 1048576) (hK : Strs w ka kn ks) (h1 : Sett w r1 n1 D) (h2 : Sett w r2 n2 D) :
    Calls Trym.prog 13 #[.map r1, .map r2, .slice ka kn kc, .string p] w fun e w' => e = .returned (.bool true) ∧ w = w' := by
  cases r1 with
  | none =>
    cases r2 with
    | none => exact same_nils ka kn kc ks p w hp hkn hK
    | some b2 => cases hr
  | some b1 =>
    cases r2 with
    | none => cases hr
    | some b2 => exact same_maps b1 b2 n1 n2 D ka kn kc ks p w hp hkn hK (h1 b1 rfl) (h2 b2 rfl)

/-- the map that held one other entry -/
def one (sk sv : ByteArray) : DataW Unit := (DataW.map []).put (.string sk.data.toList) (.lit (.string sv.data.toList))
theorem one_size (sk sv : ByteArray) : Maps.size (one sk sv) = 1 := by
  unfold one
  rw [size_put tidy_empty]; rfl
theorem one_has (sk sv : ByteArray) : Maps.has (one sk sv) (.string sk.data.toList) = true := has_put_same (k := .string sk.data.toList) isMap_empty trivial _
theorem one_at (sk sv : ByteArray) (z : DataW Unit) : (one sk sv).atKey (.string sk.data.toList) z = .lit (.string sv.data.toList) := atKey_put_same (k := .string sk.data.toList) isMap_empty trivial _ _

theorem one_len {w : World} {b n : Nat} {sk sv : ByteArray} (h : Owns w b n (one sk sv)) (ty : TypeId) : (Builtin.len_ #[25] ty #[.map (some b)]).run Trym.prog w = .ok (.int .i64 1) w := by
  have e := World.ownsMap.len h Trym.underlying25 ty
  rw [one_size] at e
  exact e
theorem one_look {w : World} {b n : Nat} {sk sv : ByteArray} (hk : sk.size ≤ maxLen) (h : Owns w b n (one sk sv)) : (Instr.lookup 25 (.map (some b)) (.string sk) true).run Trym.prog w = .ok (.tuple #[.string sv, .bool true]) w := by
  obtain ⟨v, ps, hrun, hv⟩ := World.ownsMap.look_ok h law9 Trym.underlying25 (zero9 w) (plainElem_string Trym.underlying9 (s := ⟨#[]⟩) (Nat.zero_le _)) (keyOf_string_mk Trym.underlying9 hk)
  rw [one_at] at hv
  obtain ⟨c, rfl, hc, _⟩ := plainElem_string_inv Trym.underlying9 hv
  have hc1 : (.lit (.string sv.data.toList) : DataW Unit) = .lit (.string c.data.toList) := congrArg Prod.fst hc
  injection hc1 with hc2
  injection hc2 with hc3
  rw [one_has] at hrun
  rw [bytes_eq hc3]
  exact hrun

theorem Bios.made (w : World) (ver : ByteArray) (m : Value) : Bios (w.alloc (.cells #[.string ver, m] 28)) w.heap.size ver m :=
  ⟨by rw [World.cell?_alloc_at _ _ _ _ rfl]; rfl, by rw [World.cell?_alloc_at _ _ _ _ rfl]; rfl, World.frozen?_alloc_at _ _ _ _ rfl, World.frozen?_alloc_at _ _ _ _ rfl⟩

theorem Sett.lt {w : World} {r : Option Nat} {n : Nat} {D : DataW Unit} (h : Sett w r n D) {b : Nat} (hb : r = some b) : b < w.heap.size := World.ownsMap.lt (h b hb)

/-- what lies in memory when DeepCopyInto is called -/
theorem exact_ready {w1 w2 : World} {r : Option Nat} {n : Nat} {D : DataW Unit} {ver sk sv : ByteArray} (hS : Sett w1 r n D)
    (ho : w2.ownsMap (H := Unit) Trym.prog 9 (plainElem Trym.prog 9) (w1.heap.size + 1) (0 + 1) ((DataW.map []).put (.string sk.data.toList) (.lit (.string sv.data.toList))))
    (hg : ((w1.alloc (.cells #[.string ver, .map r] 28)).alloc (.map #[] 0)).grownBy w2 (some (w1.heap.size + 1))) (m : Value) :
    w1.heap.size + 2 ≤ w2.heap.size ∧ Bios (w2.alloc (.cells #[.string sv, m] 28)) w1.heap.size ver (.map r) ∧ Bios (w2.alloc (.cells #[.string sv, m] 28)) w2.heap.size sv m ∧ Sett (w2.alloc (.cells #[.string sv, m] 28)) r n D ∧
      Owns (w2.alloc (.cells #[.string sv, m] 28)) (w1.heap.size + 1) 1 (one sk sv) ∧ w1.grownBy (w2.alloc (.cells #[.string sv, m] 28)) none := by
  have hsz : w1.heap.size + 2 ≤ w2.heap.size := by have := hg.size; simpa using this
  have hga : w1.grownBy ((w1.alloc (.cells #[.string ver, .map r] 28)).alloc (.map #[] 0)) none := (World.grownBy_alloc _ _ _).trans (World.grownBy_alloc _ _ _)
  have hall : w1.grownBy w2 none := hga.andThen hg (fun j hj => .inl (by cases hj; omega))
  refine ⟨hsz, ?_, Bios.made _ _ _, ?_, World.ownsMap.alloc ho _, hall.trans (World.grownBy_alloc _ _ _)⟩
  · exact ((((Bios.made w1 ver (.map r)).kept (World.grownBy_alloc _ _ none) (by simp)).kept hg (fun e => by have := Option.some.inj e; omega))).kept (World.grownBy_alloc _ _ none) (by simp)
  · exact (hS.kept hall (fun b hb => by simp)).kept (World.grownBy_alloc _ _ none) (fun b hb => by simp)

set_option maxHeartbeats 1000000 in
theorem exact_any (ver sk sv : ByteArray) (nm : Bool) (ka va : Option Addr) (kn kc vn vc : Nat) (ks vs : List ByteArray) (w : World) (hver : ver.size ≤ maxLen) (hsk : sk.size ≤ maxLen) (hsv : sv.size ≤ maxLen) (hkn : kn ≤ maxLen) (hvn : vn ≤ maxLen)
    (hK : Strs w ka kn ks) (hV : Strs w va vn vs) :
    Calls Trym.prog 3 #[.string ver, .bool nm, .slice ka kn kc, .slice va vn vc, .string sk, .string sv] w fun e w' => e = .returned (.bool true) ∧ Below w.heap.size w w' := by
  have HK : Hid (Strs w ka kn ks) := hK
  have HV : Hid (Strs w va vn vs) := hV
  have HB := bound9 ver sk sv nm ka va kn kc vn vc ks vs w hver hsk hsv hkn hvn hK hV
  clear hK hV
  have M : Hid (ver.size ≤ maxLen ∧ sk.size ≤ maxLen ∧ sv.size ≤ maxLen) := ⟨hver, hsk, hsv⟩
  unfold maxLen at hver hsk hsv hkn hvn
  have hmm := @run_makeMap Trym.prog
  by_cases k1 : 65536 < kn
  · go_enter Trym.func3, Trym.ntmps3
    go_wp2_with fail
    refine HB.mono ?_
    rintro e w' ⟨b, rfl, rfl, hB⟩
    clear hB
    cases b
    all_goals
      go_wp2
      go_ret
      exact ⟨rfl, Below.refl _ _⟩
  by_cases k2 : 65536 < vn
  · go_enter Trym.func3, Trym.ntmps3
    go_wp2_with fail
    refine HB.mono ?_
    rintro e w' ⟨b, rfl, rfl, hB⟩
    clear hB
    cases b
    all_goals
      go_wp2
      go_ret
      exact ⟨rfl, Below.refl _ _⟩
  go_enter Trym.func3, Trym.ntmps3
  go_wp2_with fail
  refine HB.mono ?_
  rintro e w' ⟨b, rfl, rfl, hB⟩
  cases b
  · go_wp2
    go_ret
    exact ⟨rfl, Below.refl _ _⟩
  · obtain ⟨g1, g2, g3, g4, g5, g6, g7⟩ := hB rfl
    have HKS : Hid (Small kn ks) := g6
    have HVS : Hid (Small vn vs) := g7
    clear hB g6 g7
    go_wp2_with fail
    refine (strs_any ka kn kc ks w HK.out HKS.out g4).mono ?_
    rintro e w' ⟨t1, rfl, p0, p1, rfl⟩
    go_wp2_with fail
    refine (strs_any va vn vc vs w HV.out HVS.out g5).mono ?_
    rintro e w' ⟨t2, rfl, q0, q1, rfl⟩
    by_cases hsum : 1048576 < (ver.size : Int) + (sk.size : Int) + (sv.size : Int) + t1 + t2
    · go_wp2
      go_ret
      exact ⟨rfl, Below.refl _ _⟩
    · go_wp2_with fail
      refine (build_any nm ka va kn kc vn vc ks vs w g4 g5 HK.out HV.out).mono ?_
      rintro e w1 ⟨r, rfl, HR, hb1⟩
      have HO0 : Hid (((w1.alloc (.cells #[.string ver, .map r] 28)).alloc (.map #[] 0)).ownsMap (H := Unit) Trym.prog 9 (plainElem Trym.prog 9) (w1.heap.size + 1) 0 (.map [])) := by
        have h := World.ownsMap_made (H := Unit) (w1.alloc (.cells #[.string ver, .map r] 28)) Trym.prog 9 (plainElem Trym.prog 9)
        have e : (w1.alloc (.cells #[.string ver, .map r] 28)).heap.size = w1.heap.size + 1 := by simp
        rw [e] at h
        exact h
      go_wp2_with (first
        | (at_mapUpdate; refine wpList_mapUpdate_own _ rfl (.tmp 56) (.tmp 57) (.tmp 58) 25 rfl 9 9 law9 Trym.underlying25 _ (w1.heap.size + 1) 0 _ rfl HO0.out (by unfold maxLen; omega) _ _ _ rfl rfl (keyOf_string_mk Trym.underlying9 M.out.2.1) _ [] (plainElem_string Trym.underlying9 M.out.2.2) ?_; intro w2 hown2 hg2))
      obtain ⟨z1, hI, hO, hS, hOld, hg3⟩ := exact_ready HR.out.2.2 hown2 hg2 (.map (some (w1.heap.size + 1)))
      have hlt : ∀ b, r = some b → b < w1.heap.size := fun b hb => HR.out.2.2.lt hb
      have HL : Hid (∀ b, r = some b → b < w1.heap.size) := hlt
      have HI : Hid (Bios (w2.alloc (.cells #[.string sv, .map (some (w1.heap.size + 1))] 28)) w1.heap.size ver (.map r)) := hI
      have HOld : Hid (Owns (w2.alloc (.cells #[.string sv, .map (some (w1.heap.size + 1))] 28)) (w1.heap.size + 1) 1 (one sk sv)) := hOld
      have HG3 : Hid (w1.grownBy (w2.alloc (.cells #[.string sv, .map (some (w1.heap.size + 1))] 28)) none) := hg3
      have HS : Hid (Sett (w2.alloc (.cells #[.string sv, .map (some (w1.heap.size + 1))] 28)) r kn (bld ks vs kn)) := hS
      refine (copy_any w1.heap.size w2.heap.size r kn (bld ks vs kn) ver sv _ _ (by omega) hI hO hS (fun b hb e => by have := hlt b hb; omega) g4).mono ?_
      rintro e w4 ⟨rfl, q, HQ⟩
      clear hI hO hS hOld hg3 hlt hown2 hg2 HO0 HB
      have HP : Hid (Bios w4 w1.heap.size ver (.map r) ∧ Sett w4 r kn (bld ks vs kn) ∧ Owns w4 (w1.heap.size + 1) 1 (one sk sv) ∧ Below w.heap.size w w4) := by
        obtain ⟨_, _, _, _, hg4⟩ := HQ.out
        refine ⟨HI.out.kept hg4 (fun e => by have := Option.some.inj e; omega), HS.out.kept hg4 (fun b hb e => by have := HL.out b hb; have := Option.some.inj e; omega),
          World.ownsMap.kept HOld.out hg4 (fun e => by have := Option.some.inj e; omega), ?_⟩
        have hb3 := hb1.grown HG3.out hb1.size (fun j hj => by cases hj)
        have h1 := hb1.size
        exact hb3.grown hg4 hb3.size (fun j hj => by cases hj; omega)
      have o0 := HQ.out.2.2.2.1.c0
      have o1 := HQ.out.2.2.2.1.c1
      have i1 := HP.out.1.c1
      have hl := one_len HP.out.2.2.1
      have hlk := one_look M.out.2.1 HP.out.2.2.1
      go_wp2_with (first
        | (go_at_call 13; refine (same_any q r kn kn (bld ks vs kn) ka kn kc ks sk w4 HQ.out.1 M.out.2.1 g4 (HK.out.later HP.out.2.2.2) HQ.out.2.2.1 HP.out.2.1).mono ?_; rintro e w' ⟨rfl, rfl⟩))
      go_ret
      exact ⟨rfl, HP.out.2.2.2⟩

end Go.Proofs.Qxb6000467aMods
