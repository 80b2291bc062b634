/-
  THE WALK of (*BIOS).DeepCopyInto.
-/
import Derived.Test.Qxb6000467aModsBuildWalks
import Derived.Deep.QuietTactic
import Derived.BigQuiet
namespace Go.Proofs.Qxb6000467aMods
open Go.RowKit Go.WideMaps Go.Maps
set_option linter.unusedVariables false

/-- A BIOS at block b: its version and its settings -/
structure Bios (w : World) (b : Nat) (ver : ByteArray) (m : Value) : Prop where
  c0 : w.cell? ⟨b, 0, none⟩ = some (.string ver)
  c1 : w.cell? ⟨b, 1, none⟩ = some m
  f0 : w.frozen? ⟨b, 0, none⟩ = false
  f1 : w.frozen? ⟨b, 1, none⟩ = false

theorem Bios.kept {w w' : World} {b : Nat} {ver : ByteArray} {m : Value} {row : Option Nat} (h : Bios w b ver m) (hg : w.grownBy w' row) (hne : some b ≠ row) : Bios w' b ver m := by
  have hlt := World.block_lt_of_cell? _ _ h.c0
  exact ⟨hg.cell h.c0 hne, hg.cell h.c1 hne, (World.frozen?_of_block (a := ⟨b, 0, none⟩) (hg.block b hlt hne)).trans h.f0, (World.frozen?_of_block (a := ⟨b, 1, none⟩) (hg.block b hlt hne)).trans h.f1⟩

theorem Bios.lt {w : World} {b : Nat} {ver : ByteArray} {m : Value} (h : Bios w b ver m) : b < w.heap.size := World.block_lt_of_cell? _ _ h.c0

theorem grown_refl (w : World) (row : Option Nat) : w.grownBy w row := ⟨rfl, rfl, rfl, Nat.le_refl _, fun _ _ _ => rfl⟩
theorem grown_set (w : World) (b o : Nat) (v : Value) : w.grownBy (w.setCell ⟨b, o, none⟩ v) (some b) :=
  ⟨rfl, rfl, rfl, by simp [World.setCell], fun k _ hne => Below.heap_setCell _ _ _ _ (fun e => hne (by rw [e]))⟩
theorem grown_draw (w : World) (n : Nat) (row : Option Nat) : w.grownBy (w.drewN n) row := ⟨rfl, rfl, rfl, Nat.le_refl _, fun _ _ _ => rfl⟩
theorem size_set (w : World) (a : Addr) (v : Value) : (w.setCell a v).heap.size = w.heap.size := by simp [World.setCell]

/-- the whole struct is written -/
theorem Bios.put {w : World} {b : Nat} {v0 ver : ByteArray} {m0 m : Value} (h : Bios w b v0 m0) : Bios ((w.setCell ⟨b, 0, none⟩ (.string ver)).setCell ⟨b, 1, none⟩ m) b ver m := by
  have e1 : (w.setCell ⟨b, 0, none⟩ (.string ver)).cell? ⟨b, 1, none⟩ = some m0 := by
    rw [World.cell?_setCell_other _ _ _ _ (by intro e; cases e)]; exact h.c1
  refine ⟨?_, World.cell?_setCell_same _ _ _ e1, ?_, ?_⟩
  · rw [World.cell?_setCell_other _ _ _ _ (by intro e; cases e)]
    exact World.cell?_setCell_same _ _ _ h.c0
  · rw [World.frozen?_setCell, World.frozen?_setCell]; exact h.f0
  · rw [World.frozen?_setCell, World.frozen?_setCell]; exact h.f1
/-- its settings are written -/
theorem Bios.put1 {w : World} {b : Nat} {ver : ByteArray} {m0 m : Value} (h : Bios w b ver m0) : Bios (w.setCell ⟨b, 1, none⟩ m) b ver m := by
  refine ⟨?_, World.cell?_setCell_same _ _ _ h.c1, ?_, ?_⟩
  · rw [World.cell?_setCell_other _ _ _ _ (by intro e; cases e)]
    exact h.c0
  · rw [World.frozen?_setCell]; exact h.f0
  · rw [World.frozen?_setCell]; exact h.f1

set_option maxHeartbeats 400000 in
theorem copy_nil (bi bo : Nat) (ver sv : ByteArray) (om : Value) (w : World) (hne : bi ≠ bo) (hi : Bios w bi ver (.map none)) (ho : Bios w bo sv om) :
    Calls Trym.prog 12 #[.pointer (some ⟨bi, 0, none⟩), .pointer (some ⟨bo, 0, none⟩)] w fun e w' => e = .returned (.tuple #[]) ∧ Bios w' bo ver (.map none) ∧ w.grownBy w' (some bo) := by
  have HO : Hid (Bios w bo sv om) := ho
  obtain ⟨i0, i1, _, _⟩ := hi
  obtain ⟨o0, o1, f0, f1⟩ := ho
  have hq : ∀ W, (binOp .neq 25 (.map none) (.map none)).run Trym.prog W = .ok (.bool false) W := fun W => by kernel_rfl
  go_enter Trym.func12, Trym.ntmps12
  go_wp2
  go_end0
  exact ⟨rfl, HO.out.put, (grown_set _ _ _ _).trans (grown_set _ _ _ _)⟩

set_option maxHeartbeats 1000000 in
theorem copy_map (bi bo mb n : Nat) (D : DataW Unit) (ver sv : ByteArray) (om : Value) (w : World) (hne : bi ≠ bo) (hi : Bios w bi ver (.map (some mb))) (ho : Bios w bo sv om) (hown : Owns w mb n D) (hmo : mb ≠ bo) (hn : n ≤ 1048576) :
    Calls Trym.prog 12 #[.pointer (some ⟨bi, 0, none⟩), .pointer (some ⟨bo, 0, none⟩)] w fun e w' => e = .returned (.tuple #[]) ∧ Bios w' bo ver (.map (some w.heap.size)) ∧ Owns w' w.heap.size (Maps.size D) D ∧ w.grownBy w' (some bo) := by
  have HO : Hid (Bios w bo sv om) := ho
  have HI : Hid (Bios w bi ver (.map (some mb))) := hi
  have hszD : Maps.size D ≤ n := World.ownsMap.size_le hown
  have HW : Hid (Owns w mb n D) := hown
  have hbo : bo < w.heap.size := ho.lt
  have hmb : mb < w.heap.size := World.ownsMap.lt hown
  clear hown
  obtain ⟨i0, i1, _, _⟩ := hi
  obtain ⟨o0, o1, f0, f1⟩ := ho
  have hq : ∀ W b, (binOp .neq 25 (.map (some b)) (.map none)).run Trym.prog W = .ok (.bool true) W := fun W b => by kernel_rfl
  go_enter Trym.func12, Trym.ntmps12
  go_wp2
  go_quiet (fail)
  -- the world behind '*out = *in'
  obtain ⟨W1, hW1⟩ : ∃ W1, W1 = (((w.setCell ⟨bo, 0, none⟩ (.string ver)).setCell ⟨bo, 1, none⟩ (.map (some mb))).drewN nq) := ⟨_, rfl⟩
  rw [← hW1]
  have hg1 : w.grownBy W1 (some bo) := by rw [hW1]; exact ((grown_set _ _ _ _).trans (grown_set _ _ _ _)).trans (grown_draw _ _ _)
  have hs1 : W1.heap.size = w.heap.size := by rw [hW1]; show ((w.setCell _ _).setCell _ _).heap.size = _; rw [size_set, size_set]
  have hO1 : Bios W1 bo ver (.map (some mb)) := by
    rw [hW1]
    have h := HO.out.put (ver := ver) (m := .map (some mb))
    exact ⟨h.c0, h.c1, h.f0, h.f1⟩
  have hI1 : Bios W1 bi ver (.map (some mb)) := HI.out.kept hg1 (fun e => hne (Option.some.inj e))
  have hM1 : W1.ownsMap Trym.prog 9 (plainElem Trym.prog 9) mb n D := World.ownsMap.kept HW.out hg1 (fun e => hmo (Option.some.inj e))
  clear hW1 i0 i1 o0 o1 f0 f1
  have HG1 : Hid (w.grownBy W1 (some bo)) := hg1
  have HS1 : Hid (W1.heap.size = w.heap.size) := hs1
  have HO1 : Hid (Bios W1 bo ver (.map (some mb))) := hO1
  have HM1 : Hid (W1.ownsMap Trym.prog 9 (plainElem Trym.prog 9) mb n D) := hM1
  obtain ⟨i0, i1, _, _⟩ := hI1
  obtain ⟨o0, o1, f0, f1⟩ := hO1
  have hl1 : ∀ ty, (Builtin.len_ #[25] ty #[.map (some mb)]).run Trym.prog W1 = .ok (.int .i64 (Maps.size D)) W1 := fun ty => World.ownsMap.len HM1.out Trym.underlying25 ty
  have hmm : ∀ (m : Int) W, (Instr.makeMap 25 (some (.int .i64 m))).run Trym.prog W = .ok (.map (some W.heap.size)) (W.alloc (.map #[] 0)) := fun m W => run_makeMap_hint 25 9 9 Trym.underlying25 .i64 m W
  clear hg1 hs1 hM1
  have hbo1 : bo < W1.heap.size := by rw [HS1.out]; exact hbo
  have hbi1 : bi < W1.heap.size := World.block_lt_of_cell? _ _ i0
  -- the world behind '*out = make(..)'
  have HM2 : Hid (((W1.setCell ⟨bo, 1, none⟩ (.map (some W1.heap.size))).alloc (.map #[] 0)).ownsMap Trym.prog 9 (plainElem Trym.prog 9) mb n D) := World.ownsMap.alloc (World.ownsMap.setCell HM1.out (a := ⟨bo, 1, none⟩) hmo _) _
  go_wp2_with (first
    | (at_range; refine wpList_range_own _ rfl (.tmp 33) 25 rfl 9 9 law9 Trym.underlying25 _ mb n D rfl HM2.out ?_; intro w0 hrg0 hg0 hs0))
  go_frame
  have e1 : ((W1.setCell ⟨bo, 1, none⟩ (.map (some W1.heap.size))).alloc (.map #[] 0)).heap.size = W1.heap.size + 1 := by simp
  rw [e1] at hrg0 hs0
  try rw [e1]
  have hg02 : W1.grownBy w0 (some bo) := ((grown_set W1 bo 1 _).trans (World.grownBy_alloc _ _ _)).andThen hg0 (fun j hj => by cases hj)
  have hO2 : Bios w0 bo ver (.map (some W1.heap.size)) := (HO1.out.put1.kept (World.grownBy_alloc _ (.map #[] 0) none) (by simp)).kept hg0 (by simp)
  have hD0 : w0.ownsMap (H := Unit) Trym.prog 9 (plainElem Trym.prog 9) W1.heap.size 0 (.map []) := by
    have h := (World.ownsMap_made (H := Unit) (W1.setCell ⟨bo, 1, none⟩ (.map (some W1.heap.size))) Trym.prog 9 (plainElem Trym.prog 9)).kept hg0 (by simp)
    rw [size_set] at h
    exact h
  have hmb1 : mb < W1.heap.size := by rw [HS1.out]; exact hmb
  have HG2 : Hid (W1.grownBy w0 (some bo)) := hg02
  have HD0 : Hid (w0.ownsMap (H := Unit) Trym.prog 9 (plainElem Trym.prog 9) W1.heap.size 0 (.map [])) := hD0
  have HO2 : Hid (Bios w0 bo ver (.map (some W1.heap.size))) := hO2
  have HR0 : Hid (w0.ranges Trym.prog 9 (plainElem Trym.prog 9) mb (W1.heap.size + 1) n D (Maps.has D) (Maps.size D)) := hrg0
  clear hg02 hD0 hO2 hrg0 hg0 hs0 i0 i1 o0 o1 f0 f1 hl1 hmm
  go_loopw [35] (fun _ wr => ∃ (left : Lit → Bool) (cnt : Nat) (Dout : DataW Unit), wr.ranges Trym.prog 9 (plainElem Trym.prog 9) mb (W1.heap.size + 1) n D left cnt ∧ cnt ≤ Maps.size D ∧
      wr.ownsMap Trym.prog 9 (plainElem Trym.prog 9) W1.heap.size (Maps.size D - cnt) Dout ∧ Agree Dout D left ∧ Bios wr bo ver (.map (some W1.heap.size)) ∧ W1.grownBy wr (some bo))
    (fun _ wr => wr.rangeLeft mb (W1.heap.size + 1))
  case atStart =>
    exact ⟨_, _, .map [], HR0.out, Nat.le_refl _, HD0.out.mono (Nat.zero_le _), agree_start D, HO2.out, HG2.out⟩
  case round =>
    obtain ⟨left, cnt, Dout, hrg, hcs, hout, hA, hO, hG⟩ := hrel
    have HRG : Hid (wr.ranges Trym.prog 9 (plainElem Trym.prog 9) mb (W1.heap.size + 1) n D left cnt) := hrg
    have HOUT : Hid (wr.ownsMap Trym.prog 9 (plainElem Trym.prog 9) W1.heap.size (Maps.size D - cnt) Dout) := hout
    have HA : Hid (Agree Dout D left) := hA
    have HO : Hid (Bios wr bo ver (.map (some W1.heap.size))) := hO
    have HG : Hid (W1.grownBy wr (some bo)) := hG
    clear hrg hout hA hO hG
    go_wp2_with (first
      | (at_next; refine wpList_next_ranges_ss _ rfl (.tmp 34) rfl 9 9 law9 Trym.underlying9 Trym.underlying9 mb (W1.heap.size + 1) n D left cnt rfl HRG.out ?_ ?_)
      | go_in)
    · -- nothing is left
      intro hc0 hl0
      go_wp2
      go_end0
      have hcz : cnt = 0 := hc0
      have e : Dout = D := agree_end HA.out hl0 (HOUT.out.canon law9) (HRG.out.owns.canon law9)
      subst e
      refine ⟨rfl, ?_, ?_, ?_⟩
      · have := HO.out; rw [HS1.out] at this; exact this
      · have := HOUT.out; rw [HS1.out, hcz] at this; exact this
      · exact HG1.out.trans HG.out
    · -- an entry has come
      intro x c w1 cnt1 hwx hwc hlx hat hrg1 hlt hg1 hs1 hen
      have hO1 : Bios w1 bo ver (.map (some W1.heap.size)) := HO.out.kept hg1 (fun e => by have := Option.some.inj e; omega)
      have hout1 : w1.ownsMap Trym.prog 9 (plainElem Trym.prog 9) W1.heap.size (Maps.size D - cnt) Dout := HOUT.out.kept hg1 (fun e => by have := Option.some.inj e; omega)
      have hG1 : W1.grownBy w1 (some bo) := HG.out.andThen hg1 (fun j hj => by cases hj; exact .inl (Nat.le_succ _))
      have HA1 : Hid (Agree (Dout.put (.string x.data.toList) (.lit (.string c.data.toList))) D (fun z => left z && !z.sameKey (.string x.data.toList))) := agree_step HA.out HOUT.out.isMap trivial hat
      have HO1 : Hid (Bios w1 bo ver (.map (some W1.heap.size))) := hO1
      have HOUT1 : Hid (w1.ownsMap Trym.prog 9 (plainElem Trym.prog 9) W1.heap.size (Maps.size D - cnt) Dout) := hout1
      have HG1 : Hid (W1.grownBy w1 (some bo)) := hG1
      have HRG1 : Hid (w1.ranges Trym.prog 9 (plainElem Trym.prog 9) mb (W1.heap.size + 1) n D (fun z => left z && !z.sameKey (.string x.data.toList)) cnt1) := hrg1
      have o1 := hO1.c1
      clear hO1 hout1 hG1 hrg1 hg1 hs1 hat hlx HM2 e1
      go_wp2_with (first
        | (at_mapUpdate; refine wpList_mapUpdate_own _ rfl (.tmp 42) (.tmp 43) (.tmp 44) 25 rfl 9 9 law9 Trym.underlying25 _ W1.heap.size _ Dout rfl HOUT1.out (by unfold maxLen; omega) _ _ _ rfl rfl (keyOf_string_mk Trym.underlying9 hwx) _ [] (plainElem_string Trym.underlying9 hwc) ?_; intro w2 hout2 hg2; go_frame)
        | go_in)
      have hrg2 := HRG1.out.kept hg2 (fun e => by have := Option.some.inj e; omega) (fun e => by have := Option.some.inj e; omega)
      go_roundw
      case rel =>
        exact ⟨_, cnt1, _, hrg2, by omega, hout2.mono (by omega), HA1.out, HO1.out.kept hg2 (fun e => by have := Option.some.inj e; omega), HG1.out.andThen hg2 (fun j hj => by cases hj; exact .inl (Nat.le_refl _))⟩
      case measure => rw [hrg2.left_eq, HRG.out.left_eq]; exact hlt

end Go.Proofs.Qxb6000467aMods
