/-
  THE WALK of FnBIOSDeepCopyIntoSharesNoMap.
-/
import Derived.Test.Qxb6000467aModsExactWalk
import Derived.RegionTactic
namespace Go.Proofs.Qxb6000467aMods
open Go.RowKit Go.WideMaps Go.Maps
set_option linter.unusedVariables false

/-- the law's own bounds send the input away -/
theorem share_away (ver sk sv : ByteArray) (nm : Bool) (ka va : Option Addr) (kn kc vn vc : Nat) (ks vs : List ByteArray) (w : World) (hver : ver.size ≤ maxLen) (hsk : sk.size ≤ maxLen) (hsv : sv.size ≤ maxLen) (hkn : kn ≤ maxLen) (hvn : vn ≤ maxLen)
    (hK : Strs w ka kn ks) (hV : Strs w va vn vs) (h : 65536 < kn ∨ 65536 < vn) :
    Calls Trym.prog 4 #[.string ver, .bool nm, .slice ka kn kc, .slice va vn vc, .string sk, .string sv] w fun e w' => e = .returned (.bool true) ∧ Below w.heap.size w w' := by
  have HB := bound14 ver sk sv nm ka va kn kc vn vc ks vs w hver hsk hsv hkn hvn hK hV
  clear hK hV
  unfold maxLen at hver hsk hsv hkn hvn
  by_cases k1 : 65536 < kn
  all_goals
    have k2 : 65536 < kn ∨ 65536 < vn := h
    clear h
    go_enter Trym.func4, Trym.ntmps4
    go_wp2_with fail
    refine HB.mono ?_
    rintro e w' ⟨b, rfl, rfl, hB⟩
    clear hB
    cases b
    all_goals
      go_wp2
      go_ret
      exact ⟨rfl, Below.refl _ _⟩

set_option maxHeartbeats 1000000 in
/-- the settings are nil -/
theorem share_nil (ver sk sv : ByteArray) (ka va : Option Addr) (kn kc vn vc : Nat) (ks vs : List ByteArray) (w : World) (hver : ver.size ≤ maxLen) (hsk : sk.size ≤ maxLen) (hsv : sv.size ≤ maxLen) (k1 : kn ≤ 65536) (k2 : vn ≤ 65536)
    (hK : Strs w ka kn ks) (hV : Strs w va vn vs) :
    Calls Trym.prog 4 #[.string ver, .bool true, .slice ka kn kc, .slice va vn vc, .string sk, .string sv] w fun e w' => e = .returned (.bool true) ∧ Below w.heap.size w w' := by
  have HK : Hid (Strs w ka kn ks) := hK
  have HV : Hid (Strs w va vn vs) := hV
  have HB := bound14 ver sk sv true ka va kn kc vn vc ks vs w hver hsk hsv (by unfold maxLen; omega) (by unfold maxLen; omega) hK hV
  clear hK hV
  have M : Hid (ver.size ≤ maxLen ∧ sk.size ≤ maxLen ∧ sv.size ≤ maxLen) := ⟨hver, hsk, hsv⟩
  unfold maxLen at hver hsk hsv
  have hq : ∀ W, (binOp .neq 25 (.map none) (.map none)).run Trym.prog W = .ok (.bool false) W := fun W => by kernel_rfl
  go_enter Trym.func4, Trym.ntmps4
  go_wp2_with fail
  refine HB.mono ?_
  rintro e w' ⟨b, rfl, rfl, hB⟩
  cases b
  · go_wp2
    go_ret
    exact ⟨rfl, Below.refl _ _⟩
  · obtain ⟨g1, g2, g3, g4, g5, g6, g7⟩ := hB rfl
    have HKS : Hid (Small kn ks) := g6
    have HVS : Hid (Small vn vs) := g7
    clear hB g6 g7 HB
    go_wp2_with fail
    refine (strs_any ka kn kc ks w HK.out HKS.out g4).mono ?_
    rintro e w' ⟨t1, rfl, p0, p1, rfl⟩
    go_wp2_with fail
    refine (strs_any va vn vc vs w HV.out HVS.out g5).mono ?_
    rintro e w' ⟨t2, rfl, q0, q1, rfl⟩
    by_cases hsum : 1048576 < (ver.size : Int) + (sk.size : Int) + (sv.size : Int) + t1 + t2
    · go_wp2
      go_ret
      exact ⟨rfl, Below.refl _ _⟩
    · go_wp2_with (first | (go_at_call 11; refine (build_nil ka va kn kc vn vc _).mono ?_; rintro e w' ⟨rfl, rfl⟩))
      have hI0 : Bios ((w.alloc (.cells #[.string ver, .map none] 28)).alloc (.cells #[.string ⟨#[]⟩, .map none] 28)) w.heap.size ver (.map none) := (Bios.made w ver (.map none)).kept (World.grownBy_alloc _ _ none) (by simp)
      have hO0 : Bios ((w.alloc (.cells #[.string ver, .map none] 28)).alloc (.cells #[.string ⟨#[]⟩, .map none] 28)) (w.heap.size + 1) ⟨#[]⟩ (.map none) := by
        have h := Bios.made (w.alloc (.cells #[.string ver, .map none] 28)) ⟨#[]⟩ (.map none)
        have e : (w.alloc (.cells #[.string ver, .map none] 28)).heap.size = w.heap.size + 1 := by simp
        rw [e] at h
        exact h
      have HI0 : Hid (Bios ((w.alloc (.cells #[.string ver, .map none] 28)).alloc (.cells #[.string ⟨#[]⟩, .map none] 28)) w.heap.size ver (.map none)) := hI0
      refine (copy_nil w.heap.size (w.heap.size + 1) ver ⟨#[]⟩ (.map none) _ (by omega) hI0 hO0).mono ?_
      rintro e w1 ⟨rfl, hO1, hg1⟩
      have hI1 := HI0.out.kept hg1 (fun e => by have := Option.some.inj e; omega)
      have hb1 : Below w.heap.size w w1 := by
        have hb0 : Below w.heap.size w ((w.alloc (.cells #[.string ver, .map none] 28)).alloc (.cells #[.string ⟨#[]⟩, .map none] 28)) := ((Below.refl _ _).alloc (Nat.le_refl _) _).alloc (by simp) _
        exact hb0.grown hg1 hb0.size (fun j hj => by cases hj; omega)
      have HI1 : Hid (Bios w1 w.heap.size ver (.map none)) := hI1
      have HB1 : Hid (Below w.heap.size w w1) := hb1
      have hz : w.heap.size < w1.heap.size := HI1.out.lt
      have o11 := hO1.c1
      have i10 := hI1.c0
      have i11 := hI1.c1
      clear hI0 hO0 hO1 hg1 hI1 hb1 HI0
      go_wp2_with (first | (go_at_call 13; refine (same_nils ka kn kc ks sk w1 M.out.2.1 g4 (HK.out.later HB1.out)).mono ?_; rintro e w' ⟨rfl, rfl⟩))
      have hI2 : Bios (w1.alloc (.cells #[.string ⟨#[]⟩, .map none] 28)) w.heap.size ver (.map none) := HI1.out.kept (World.grownBy_alloc _ _ none) (by simp)
      have HI2 : Hid (Bios (w1.alloc (.cells #[.string ⟨#[]⟩, .map none] 28)) w.heap.size ver (.map none)) := hI2
      refine (copy_nil w.heap.size w1.heap.size ver ⟨#[]⟩ (.map none) _ (by omega) hI2 (Bios.made w1 ⟨#[]⟩ (.map none))).mono ?_
      rintro e w3 ⟨rfl, hO3, hg3⟩
      have hI3 := HI2.out.kept hg3 (fun e => by have := Option.some.inj e; omega)
      have hb3 : Below w.heap.size w w3 := by
        have hb2 : Below w.heap.size w (w1.alloc (.cells #[.string ⟨#[]⟩, .map none] 28)) := HB1.out.alloc HB1.out.size _
        exact hb2.grown hg3 hb2.size (fun j hj => by cases hj; omega)
      have HB3 : Hid (Below w.heap.size w w3) := hb3
      have o30 := hO3.c0
      have o31 := hO3.c1
      have i31 := hI3.c1
      clear hI2 HI2 hO3 hg3 hI3 hb3 o11 i10 i11
      go_wp2_with (first | (go_at_call 13; refine (same_nils ka kn kc ks sk w3 M.out.2.1 g4 (HK.out.later HB3.out)).mono ?_; rintro e w' ⟨rfl, rfl⟩))
      go_ret
      exact ⟨rfl, HB3.out⟩

end Go.Proofs.Qxb6000467aMods
