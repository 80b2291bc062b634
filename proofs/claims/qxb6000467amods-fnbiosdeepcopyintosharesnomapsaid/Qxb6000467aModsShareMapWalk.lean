/-
  THE WALK of FnBIOSDeepCopyIntoSharesNoMap where the settings are a map.
-/
import Derived.Test.Qxb6000467aModsShareWalk
namespace Go.Proofs.Qxb6000467aMods
open Go.RowKit Go.WideMaps Go.Maps
set_option linter.unusedVariables false

/-- WHAT STANDS WHILE A COPY IS EDITED: the source at bi with its map at b1, the reference map at b2; both read as D; nothing that was there at the start has turned. -/
structure St (w0 w : World) (bi b1 b2 : Nat) (ver : ByteArray) (n : Nat) (D : DataW Unit) : Prop where
  bel : Below w0.heap.size w0 w
  inn : Bios w bi ver (.map (some b1))
  own : Owns w b1 n D
  ref : Owns w b2 n D

theorem St.lt1 {w0 w : World} {bi b1 b2 : Nat} {ver : ByteArray} {n : Nat} {D : DataW Unit} (h : St w0 w bi b1 b2 ver n D) : bi < w.heap.size := h.inn.lt
theorem St.lt2 {w0 w : World} {bi b1 b2 : Nat} {ver : ByteArray} {n : Nat} {D : DataW Unit} (h : St w0 w bi b1 b2 ver n D) : b1 < w.heap.size := World.ownsMap.lt h.own
theorem St.lt3 {w0 w : World} {bi b1 b2 : Nat} {ver : ByteArray} {n : Nat} {D : DataW Unit} (h : St w0 w bi b1 b2 ver n D) : b2 < w.heap.size := World.ownsMap.lt h.ref
theorem St.ne1 {w0 w : World} {bi b1 b2 : Nat} {ver : ByteArray} {n : Nat} {D : DataW Unit} (h : St w0 w bi b1 b2 ver n D) : bi ≠ w.heap.size := Nat.ne_of_lt h.lt1
theorem St.ne2 {w0 w : World} {bi b1 b2 : Nat} {ver : ByteArray} {n : Nat} {D : DataW Unit} (h : St w0 w bi b1 b2 ver n D) : b1 ≠ w.heap.size := Nat.ne_of_lt h.lt2
theorem St.ne3 {w0 w : World} {bi b1 b2 : Nat} {ver : ByteArray} {n : Nat} {D : DataW Unit} (h : St w0 w bi b1 b2 ver n D) : b2 ≠ w.heap.size := Nat.ne_of_lt h.lt3
theorem St.le {w0 w : World} {bi b1 b2 : Nat} {ver : ByteArray} {n : Nat} {D : DataW Unit} (h : St w0 w bi b1 b2 ver n D) : w0.heap.size ≤ w.heap.size := h.bel.size

theorem St.kept {w0 w w' : World} {bi b1 b2 : Nat} {ver : ByteArray} {n : Nat} {D : DataW Unit} (h : St w0 w bi b1 b2 ver n D) {row : Nat} (hg : w.grownBy w' (some row)) (h0 : w0.heap.size ≤ row) (r1 : row ≠ bi) (r2 : row ≠ b1) (r3 : row ≠ b2) : St w0 w' bi b1 b2 ver n D :=
  ⟨h.bel.grown hg h.bel.size (fun j hj => by cases hj; exact h0), h.inn.kept hg (fun e => r1 (Option.some.inj e).symm), World.ownsMap.kept h.own hg (fun e => r2 (Option.some.inj e).symm), World.ownsMap.kept h.ref hg (fun e => r3 (Option.some.inj e).symm)⟩

theorem St.alloc {w0 w : World} {bi b1 b2 : Nat} {ver : ByteArray} {n : Nat} {D : DataW Unit} (h : St w0 w bi b1 b2 ver n D) (o : Obj) : St w0 (w.alloc o) bi b1 b2 ver n D :=
  ⟨h.bel.alloc h.bel.size _, h.inn.kept (World.grownBy_alloc _ _ none) (by simp), World.ownsMap.alloc h.own _, World.ownsMap.alloc h.ref _⟩

theorem st_made {w0 w1 w2 : World} {ver : ByteArray} {n : Nat} {D : DataW Unit} (hb : Below w0.heap.size w0 w1) (ho : Owns w1 w0.heap.size n D) (hr : Owns w2 (w1.heap.size + 1) n D)
    (hb2 : Below (w1.heap.size + 1) (w1.alloc (.cells #[.string ver, .map (some w0.heap.size)] 28)) w2) : St w0 w2 w1.heap.size w0.heap.size (w1.heap.size + 1) ver n D := by
  have e1 : (w1.alloc (.cells #[.string ver, .map (some w0.heap.size)] 28)).heap.size = w1.heap.size + 1 := by simp
  have hg : (w1.alloc (.cells #[.string ver, .map (some w0.heap.size)] 28)).grownBy w2 none := ⟨hb2.os, hb2.tape, hb2.output, hb2.size, fun k hk _ => hb2.block k (by omega)⟩
  have hb0 : Below w0.heap.size w0 (w1.alloc (.cells #[.string ver, .map (some w0.heap.size)] 28)) := hb.alloc hb.size _
  exact ⟨hb0.grown hg hb0.size (fun j hj => by cases hj), (Bios.made w1 ver _).kept hg (by simp), World.ownsMap.kept (World.ownsMap.alloc ho _) hg (by simp), hr⟩

/-- WHAT STANDS WHILE THE SOURCE IS EDITED: the source at bi with its map at b1, the second copy at bo with its map at m2, the reference map at b2; m2 and b2 read as D. -/
structure Su (w0 w : World) (bi b1 bo m2 b2 : Nat) (ver : ByteArray) (n : Nat) (D : DataW Unit) : Prop where
  bel : Below w0.heap.size w0 w
  inn : Bios w bi ver (.map (some b1))
  out : Bios w bo ver (.map (some m2))
  own : Owns w m2 n D
  ref : Owns w b2 n D

theorem Su.kept {w0 w w' : World} {bi b1 bo m2 b2 : Nat} {ver : ByteArray} {n : Nat} {D : DataW Unit} (h : Su w0 w bi b1 bo m2 b2 ver n D) {row : Nat} (hg : w.grownBy w' (some row)) (h0 : w0.heap.size ≤ row) (r1 : row ≠ bi) (r2 : row ≠ bo) (r3 : row ≠ m2) (r4 : row ≠ b2) : Su w0 w' bi b1 bo m2 b2 ver n D :=
  ⟨h.bel.grown hg h.bel.size (fun j hj => by cases hj; exact h0), h.inn.kept hg (fun e => r1 (Option.some.inj e).symm), h.out.kept hg (fun e => r2 (Option.some.inj e).symm), World.ownsMap.kept h.own hg (fun e => r3 (Option.some.inj e).symm), World.ownsMap.kept h.ref hg (fun e => r4 (Option.some.inj e).symm)⟩

theorem grown_drop {w wr wd : World} {b : Nat} (h : w.grownBy wr (some b)) (ht : wr.drew.mapTurned wd b) : w.grownBy wd (some b) :=
  (h.trans (grown_draw wr 1 (some b))).trans ht.grown

set_option maxHeartbeats 1000000 in
/-- the settings are a map -/
theorem share_map (ver sk sv : ByteArray) (ka va : Option Addr) (kn kc vn vc : Nat) (ks vs : List ByteArray) (w : World) (hver : ver.size ≤ maxLen) (hsk : sk.size ≤ maxLen) (hsv : sv.size ≤ maxLen) (k1 : kn ≤ 65536) (k2 : vn ≤ 65536)
    (hK : Strs w ka kn ks) (hV : Strs w va vn vs) :
    Calls Trym.prog 4 #[.string ver, .bool false, .slice ka kn kc, .slice va vn vc, .string sk, .string sv] w fun e w' => e = .returned (.bool true) ∧ Below w.heap.size w w' := by
  have HK : Hid (Strs w ka kn ks) := hK
  have HV : Hid (Strs w va vn vs) := hV
  have HB := bound14 ver sk sv false ka va kn kc vn vc ks vs w hver hsk hsv (by unfold maxLen; omega) (by unfold maxLen; omega) hK hV
  clear hK hV
  have M : Hid (ver.size ≤ maxLen ∧ sk.size ≤ maxLen ∧ sv.size ≤ maxLen) := ⟨hver, hsk, hsv⟩
  unfold maxLen at hver hsk hsv
  have hq : ∀ W b, (binOp .neq 25 (.map (some b)) (.map none)).run Trym.prog W = .ok (.bool true) W := fun W b => by kernel_rfl
  go_enter Trym.func4, Trym.ntmps4
  go_wp2_with fail
  refine HB.mono ?_
  rintro e w' ⟨b, rfl, rfl, hB⟩
  cases b
  · go_wp2
    go_ret
    exact ⟨rfl, Below.refl _ _⟩
  · obtain ⟨g1, g2, g3, g4, g5, g6, g7⟩ := hB rfl
    have HKS : Hid (Small kn ks) := g6
    have HVS : Hid (Small vn vs) := g7
    clear hB g6 g7 HB
    go_wp2_with fail
    refine (strs_any ka kn kc ks w HK.out HKS.out g4).mono ?_
    rintro e w' ⟨t1, rfl, p0, p1, rfl⟩
    go_wp2_with fail
    refine (strs_any va vn vc vs w HV.out HVS.out g5).mono ?_
    rintro e w' ⟨t2, rfl, q0, q1, rfl⟩
    by_cases hsum : 1048576 < (ver.size : Int) + (sk.size : Int) + (sv.size : Int) + t1 + t2
    · go_wp2
      go_ret
      exact ⟨rfl, Below.refl _ _⟩
    · go_wp2_with fail
      refine (build_map ka va kn kc vn vc ks vs w g4 g5 HK.out HV.out).mono ?_
      rintro e w1 ⟨rfl, hown1, hb1⟩
      have HO1 : Hid (Owns w1 w.heap.size kn (bld ks vs kn)) := hown1
      have HB1 : Hid (Below w.heap.size w w1) := hb1
      clear hown1 hb1
      go_wp2_with fail
      have hb0 : Below w.heap.size w (w1.alloc (.cells #[.string ver, .map (some w.heap.size)] 28)) := HB1.out.alloc HB1.out.size _
      refine (build_map ka va kn kc vn vc ks vs _ g4 g5 (HK.out.later hb0) (HV.out.later hb0)).mono ?_
      rintro e w2 ⟨rfl, hown2, hb2⟩
      have e1 : (w1.alloc (.cells #[.string ver, .map (some w.heap.size)] 28)).heap.size = w1.heap.size + 1 := by simp
      rw [e1] at hown2 hb2
      rw [e1]
      have HS2 : Hid (St w w2 w1.heap.size w.heap.size (w1.heap.size + 1) ver kn (bld ks vs kn)) := st_made HB1.out HO1.out hown2 hb2
      clear hown2 hb2 hb0 e1
      go_wp2_with fail
      have HS2' : Hid (St w (w2.alloc (.cells #[.string ⟨#[]⟩, .map none] 28)) w1.heap.size w.heap.size (w1.heap.size + 1) ver kn (bld ks vs kn)) := HS2.out.alloc _
      refine (copy_map w1.heap.size w2.heap.size w.heap.size kn (bld ks vs kn) ver ⟨#[]⟩ (.map none) _ HS2.out.ne1 HS2'.out.inn (Bios.made w2 ⟨#[]⟩ (.map none)) HS2'.out.own HS2.out.ne2 g4).mono ?_
      rintro e w3 ⟨rfl, hO3, hown3, hg3⟩
      have e2 : (w2.alloc (.cells #[.string ⟨#[]⟩, .map none] 28)).heap.size = w2.heap.size + 1 := by simp
      rw [e2] at hO3 hown3
      have HS3 : Hid (St w w3 w1.heap.size w.heap.size (w1.heap.size + 1) ver kn (bld ks vs kn)) := HS2'.out.kept hg3 HS2.out.le HS2.out.ne1.symm HS2.out.ne2.symm HS2.out.ne3.symm
      have HO3 : Hid (Bios w3 w2.heap.size ver (.map (some (w2.heap.size + 1)))) := hO3
      have HW3 : Hid (Owns w3 (w2.heap.size + 1) kn (bld ks vs kn)) := World.ownsMap.mono hown3 (World.ownsMap.size_le HS3.out.own)
      have hz2 : w1.heap.size + 1 < w2.heap.size := HS2.out.lt3
      have hz1 : w.heap.size < w1.heap.size := World.ownsMap.lt HO1.out
      have o31 := hO3.c1
      clear hO3 hown3 hg3 e2
      go_wp2_with fail
      clear o31
      go_loopw [16] (fun i wr => ∃ (k : Nat) (D' : DataW Unit), k ≤ kn ∧ i = .int .i64 k ∧ wr.ownsMap Trym.prog 9 (plainElem Trym.prog 9) (w2.heap.size + 1) kn D' ∧ w3.grownBy wr (some (w2.heap.size + 1))) (fun i _ => kn - (intOf i).toNat)
      case atStart => exact ⟨0, _, Nat.zero_le _, rfl, HW3.out, grown_refl _ _⟩
      case round =>
        obtain ⟨k, D', hk, rfl, hown, hg⟩ := hrel
        have HG : Hid (w3.grownBy wr (some (w2.heap.size + 1))) := hg
        have HO : Hid (wr.ownsMap Trym.prog 9 (plainElem Trym.prog 9) (w2.heap.size + 1) kn D') := hown
        have HS : Hid (St w wr w1.heap.size w.heap.size (w1.heap.size + 1) ver kn (bld ks vs kn)) := HS3.out.kept hg (by omega) (by omega) (by omega) (by omega)
        have o1 : wr.cell? ⟨w2.heap.size, 1, none⟩ = some (.map (some (w2.heap.size + 1))) := hg.cell HO3.out.c1 (fun e => absurd (Option.some.inj e) (by show w2.heap.size ≠ w2.heap.size + 1; omega))
        clear hown hg
        by_cases hlt : k < kn
        · obtain ⟨kb, ko, rfl, _, hc⟩ := (HK.out.later HS.out.bel).cell (by omega)
          have hck := hc k hlt
          have hsf := HK.out.fit k
          obtain ⟨s, hs⟩ : ∃ s, s = ks.getD k ⟨#[]⟩ := ⟨_, rfl⟩
          rw [← hs] at hck hsf
          clear hs hc
          have hin : (k : Int) < (kn : Int) := by omega
          obtain ⟨wd, hrun, hownd, hturn⟩ := World.ownsMap.drop (w := wr.drew) HO.out.drew law9 Trym.underlying25 (keyOf_string_mk Trym.underlying9 hsf) 0
          have HOD : Hid (wd.ownsMap Trym.prog 9 (plainElem Trym.prog 9) (w2.heap.size + 1) kn (D'.del (.string s.data.toList))) := hownd
          have HTD : Hid (wr.drew.mapTurned wd (w2.heap.size + 1)) := hturn
          clear hownd hturn
          go_wp2
          go_region
          clear hrun
          go_wp2
          go_roundw
          case rel => exact ⟨k + 1, _, by omega, by go_num, HOD.out, grown_drop HG.out HTD.out⟩
          case measure => simp [intOf]; omega
        · go_wp2_with (first
            | (at_mapUpdate; refine wpList_mapUpdate_own _ rfl (.tmp 77) (.tmp 78) (.tmp 79) 25 rfl 9 9 law9 Trym.underlying25 _ (w2.heap.size + 1) kn D' rfl HO.out (by unfold maxLen; omega) _ _ _ rfl rfl (keyOf_string_mk Trym.underlying9 M.out.2.1) _ [] (plainElem_string Trym.underlying9 M.out.2.2) ?_; intro w4 hown4 hg4; have HS4 : Hid (St w w4 w1.heap.size w.heap.size (w1.heap.size + 1) ver kn (bld ks vs kn)) := HS.out.kept hg4 (by omega) (by omega) (by omega) (by omega); have i40 := HS4.out.inn.c0; have i41 := HS4.out.inn.c1; clear hown4 hg4)
            | (go_at_call 13; refine (same_maps w.heap.size (w1.heap.size + 1) kn kn (bld ks vs kn) ka kn kc ks sk w4 M.out.2.1 g4 (HK.out.later HS4.out.bel) HS4.out.own HS4.out.ref).mono ?_; rintro e w' ⟨rfl, rfl⟩))
          have HS4' : Hid (St w (w4.alloc (.cells #[.string ⟨#[]⟩, .map none] 28)) w1.heap.size w.heap.size (w1.heap.size + 1) ver kn (bld ks vs kn)) := HS4.out.alloc _
          refine (copy_map w1.heap.size w4.heap.size w.heap.size kn (bld ks vs kn) ver ⟨#[]⟩ (.map none) _ HS4.out.ne1 HS4'.out.inn (Bios.made w4 ⟨#[]⟩ (.map none)) HS4'.out.own HS4.out.ne2 g4).mono ?_
          rintro e w5 ⟨rfl, hO5, hown5, hg5⟩
          have e4 : (w4.alloc (.cells #[.string ⟨#[]⟩, .map none] 28)).heap.size = w4.heap.size + 1 := by simp
          rw [e4] at hO5 hown5
          have hS5 : St w w5 w1.heap.size w.heap.size (w1.heap.size + 1) ver kn (bld ks vs kn) := HS4'.out.kept hg5 HS4.out.le HS4.out.ne1.symm HS4.out.ne2.symm HS4.out.ne3.symm
          have HU5 : Hid (Su w w5 w1.heap.size w.heap.size w4.heap.size (w4.heap.size + 1) (w1.heap.size + 1) ver kn (bld ks vs kn)) := ⟨hS5.bel, hS5.inn, hO5, World.ownsMap.mono hown5 (World.ownsMap.size_le hS5.own), hS5.ref⟩
          have HW5 : Hid (Owns w5 w.heap.size kn (bld ks vs kn)) := hS5.own
          have hz4 : w1.heap.size + 1 < w4.heap.size := HS4.out.lt3
          have i51 := hS5.inn.c1
          clear hO5 hown5 hg5 hS5 e4 i40 i41 o1 HS4' HS2' HS2 HS3 HO3 HW3 HG HO HS
          go_wp2_with fail
          clear i51
          go_loopw [18] (fun i wr => ∃ (k : Nat) (D' : DataW Unit), k ≤ kn ∧ i = .int .i64 k ∧ wr.ownsMap Trym.prog 9 (plainElem Trym.prog 9) w.heap.size kn D' ∧ w5.grownBy wr (some w.heap.size)) (fun i _ => kn - (intOf i).toNat)
          case atStart => exact ⟨0, _, Nat.zero_le _, rfl, HW5.out, grown_refl _ _⟩
          case round =>
            obtain ⟨k', D'', hk', rfl, hown, hg⟩ := hrel
            have HG : Hid (w5.grownBy wr (some w.heap.size)) := hg
            have HO : Hid (wr.ownsMap Trym.prog 9 (plainElem Trym.prog 9) w.heap.size kn D'') := hown
            have HU : Hid (Su w wr w1.heap.size w.heap.size w4.heap.size (w4.heap.size + 1) (w1.heap.size + 1) ver kn (bld ks vs kn)) := HU5.out.kept hg (by omega) (by omega) (by omega) (by omega) (by omega)
            have i1 := HU.out.inn.c1
            clear hown hg
            by_cases hlt' : k' < kn
            · obtain ⟨kb, ko, rfl, _, hc⟩ := (HK.out.later HU.out.bel).cell (by omega)
              have hck := hc k' hlt'
              have hsf := HK.out.fit k'
              obtain ⟨s, hs⟩ : ∃ s, s = ks.getD k' ⟨#[]⟩ := ⟨_, rfl⟩
              rw [← hs] at hck hsf
              clear hs hc
              have hin : (k' : Int) < (kn : Int) := by omega
              obtain ⟨wd, hrun, hownd, hturn⟩ := World.ownsMap.drop (w := wr.drew) HO.out.drew law9 Trym.underlying25 (keyOf_string_mk Trym.underlying9 hsf) 0
              have HOD : Hid (wd.ownsMap Trym.prog 9 (plainElem Trym.prog 9) w.heap.size kn (D''.del (.string s.data.toList))) := hownd
              have HTD : Hid (wr.drew.mapTurned wd w.heap.size) := hturn
              clear hownd hturn
              go_wp2
              go_region
              clear hrun
              go_wp2
              go_roundw
              case rel => exact ⟨k' + 1, _, by omega, by go_num, HOD.out, grown_drop HG.out HTD.out⟩
              case measure => simp [intOf]; omega
            · go_wp2_with (first
                | (at_mapUpdate; refine wpList_mapUpdate_own _ rfl (.tmp 110) (.tmp 111) (.tmp 112) 25 rfl 9 9 law9 Trym.underlying25 _ w.heap.size kn D'' rfl HO.out (by unfold maxLen; omega) _ _ _ rfl rfl (keyOf_string_mk Trym.underlying9 M.out.2.1) _ [] (plainElem_string Trym.underlying9 M.out.2.2) ?_; intro w6 hown6 hg6; have HU6 : Hid (Su w w6 w1.heap.size w.heap.size w4.heap.size (w4.heap.size + 1) (w1.heap.size + 1) ver kn (bld ks vs kn)) := HU.out.kept hg6 (by omega) (by omega) (by omega) (by omega) (by omega); have o60 := HU6.out.out.c0; have o61 := HU6.out.out.c1; clear hown6 hg6)
                | (go_at_call 13; refine (same_maps (w4.heap.size + 1) (w1.heap.size + 1) kn kn (bld ks vs kn) ka kn kc ks sk w6 M.out.2.1 g4 (HK.out.later HU6.out.bel) HU6.out.own HU6.out.ref).mono ?_; rintro e w' ⟨rfl, rfl⟩))
              go_ret
              exact ⟨rfl, HU6.out.bel⟩

/-- FnBIOSDeepCopyIntoSharesNoMap, every input -/
theorem share_any (ver sk sv : ByteArray) (nm : Bool) (ka va : Option Addr) (kn kc vn vc : Nat) (ks vs : List ByteArray) (w : World) (hver : ver.size ≤ maxLen) (hsk : sk.size ≤ maxLen) (hsv : sv.size ≤ maxLen) (hkn : kn ≤ maxLen) (hvn : vn ≤ maxLen)
    (hK : Strs w ka kn ks) (hV : Strs w va vn vs) :
    Calls Trym.prog 4 #[.string ver, .bool nm, .slice ka kn kc, .slice va vn vc, .string sk, .string sv] w fun e w' => e = .returned (.bool true) ∧ Below w.heap.size w w' := by
  by_cases h : 65536 < kn ∨ 65536 < vn
  · exact share_away ver sk sv nm ka va kn kc vn vc ks vs w hver hsk hsv hkn hvn hK hV h
  · cases nm
    · exact share_map ver sk sv ka va kn kc vn vc ks vs w hver hsk hsv (by omega) (by omega) hK hV
    · exact share_nil ver sk sv ka va kn kc vn vc ks vs w hver hsk hsv (by omega) (by omega) hK hV

end Go.Proofs.Qxb6000467aMods
