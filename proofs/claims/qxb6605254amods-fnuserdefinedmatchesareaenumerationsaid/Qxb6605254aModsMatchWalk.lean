/-
  THE WALK of FnUserDefinedMatchesAreaEnumeration: the slice is copied into a row of the call's own, then userDefined is held against the count.
-/
import Derived.Test.Qxb6605254aModsCountWalk
import Derived.Laws.CopyOwn
import Derived.Deep.OwnRows
namespace Go.Proofs.Qxb6605254aMods
open Go.RowKit

theorem info5 : (Trym.prog.info? 5).map (fun i => (i.zero, i.size, i.bytes)) = some (some (.int .u8 0), 1, 1) := by kernel_rfl
theorem size5 : (Trym.prog.info? 5).map (·.size) = some 1 := by kernel_rfl

set_option maxHeartbeats 400000 in
theorem bytes_any (a : Option Addr) (n c : Nat) (w : World) (hn : n ≤ maxLen) :
    Calls Trym.prog 5 #[.slice a n c] w fun e w' => e = .returned (.bool (decide (n ≤ 1048576))) ∧ w = w' := by
  unfold maxLen at hn
  by_cases h : n ≤ 1048576
  all_goals
    go_enter Trym.func5, Trym.ntmps5
    go_wp2
    go_ret
    exact ⟨ret_bool (by simp; omega), rfl⟩

/-- a slice of more than 1 MiB: the law's own bound -/
theorem match_long (a : Option Addr) (n c : Nat) (w : World) (hm : n ≤ maxLen) (hn : ¬ n ≤ 1048576) :
    Calls Trym.prog 3 #[.slice a n c] w fun e w' => e = .returned (.bool true) ∧ Below w.heap.size w w' := by
  have hd : decide (n ≤ 1048576) = false := decide_eq_false hn
  go_enter Trym.func3, Trym.ntmps3
  go_wp2_with (first | (go_at_call 5; refine (bytes_any _ _ _ _ hm).mono ?_; rintro e w' ⟨rfl, rfl⟩))
  go_ret
  exact ⟨rfl, Below.refl _ _⟩

/-- the nil slice -/
theorem match_nil (w : World) :
    Calls Trym.prog 3 #[.slice none 0 0] w fun e w' => e = .returned (.bool true) ∧ Below w.heap.size w w' := by
  have hq : ∀ W, (binOp .neq 22 (.slice none 0 0) (.slice none 0 0)).run Trym.prog W = .ok (.bool false) W := fun W => run_neq_slice_nil_any W 22 5 none 0 0 0 0 Trym.underlying22
  have h2 : (((0 : Nat) : Int) == 2) = false := by decide
  have hm : 0 ≤ maxLen := Nat.zero_le _
  go_enter Trym.func3, Trym.ntmps3
  go_wp2_with (first | (go_at_call 5; refine (bytes_any _ _ _ _ hm).mono ?_; rintro e w' ⟨rfl, rfl⟩) | (go_at_call 6; refine (zud_other _ _ _ _ h2).mono ?_; rintro e w' ⟨rfl, rfl⟩))
  go_ret
  exact ⟨rfl, Below.refl _ _⟩

theorem made_at (w : World) (n : Nat) : (w.alloc (.cells (madeCells #[.int .u8 0] n) 5)).heap[w.heap.size]? = some (.cells (madeCells #[.int .u8 0] n).toList.toArray 5 (0, 0)) := by
  show (w.heap.push _)[w.heap.size]? = _
  simp
theorem made_src {w : World} {a : Addr} {X : List Value} (h : ∀ j v, X[j]? = some v → w.cell? (a.add j) = some v) (o : Obj) :
    0 < X.length → (some ⟨w.heap.size, 0, none⟩ : Option Addr) = some ⟨w.heap.size, 0, none⟩ ∧ ∃ ad, some a = some ad ∧ ∀ j v, X[j]? = some v → (w.alloc o).cell? (ad.add j) = some v :=
  fun _ => ⟨rfl, a, rfl, fun j v hv => cell_later ((Below.refl _ _).alloc (Nat.le_refl _) _) (h j v hv)⟩
theorem made_fit {X : List Value} {n : Nat} (h : X.length = n) : 0 + X.length ≤ (madeCells #[.int .u8 0] n).toList.length := by
  have := size_madeCells #[.int .u8 0] n
  simp [h, this]
theorem made_min {X : List Value} {n : Nat} (h : X.length = n) : X.length = Nat.min n n := by
  rw [h]; exact (Nat.min_self n).symm
theorem made_below (w : World) (o : Obj) : Below w.heap.size w (w.alloc o) := (Below.refl _ _).alloc (Nat.le_refl _) _

theorem zud_n (b off n c : Nat) (hn : n = 2) (l t : Int) (w : World) (l0 : 0 ≤ l) (l1 : l ≤ 255) (t0 : 0 ≤ t) (t1 : t ≤ 255)
    (c0 : w.cell? ⟨b, off, none⟩ = some (.int .u8 l)) (c1 : w.cell? ⟨b, off + 1, none⟩ = some (.int .u8 t)) :
    Calls Trym.prog 6 #[.slice (some ⟨b, off, none⟩) n c] w fun e w' => e = .returned (.tuple #[.int .i32 (udVal l t), .bool (udOk l t)]) ∧ ∃ n, w' = w.drewN n := by
  subst hn
  exact zud_two b off c l t w l0 l1 t0 t1 c0 c1

/-- the two first cells behind the copy -/
theorem cells_two (w : World) (g : Nat) (cur : List Value) (x y : Value) (t : TypeId) (h : w.heap[g]? = some (.cells (splice cur 0 [x, y]).toArray t (0, 0))) :
    w.cell? ⟨g, 0, none⟩ = some x ∧ w.cell? ⟨g, 1, none⟩ = some y := by
  constructor <;> simp [World.cell?, h, splice]

set_option maxHeartbeats 400000 in
/-- a slice that is not nil, of a length that is not two -/
theorem match_other (a : Addr) (n c : Nat) (zs : List Int) (w : World) (hn : n ≤ 1048576) (h2 : ((n : Int) == 2) = false) (hl : n ≤ zs.length)
    (hcell : ∀ i, i < zs.length → w.cell? (a.add i) = some (.int .u8 (zs.getD i 0))) :
    Calls Trym.prog 3 #[.slice (some a) n c] w fun e w' => e = .returned (.bool true) ∧ Below w.heap.size w w' := by
  have hq : ∀ W, (binOp .neq 22 (.slice (some a) n c) (.slice none 0 0)).run Trym.prog W = .ok (.bool true) W := fun W => run_neq_slice_nil_any W 22 5 (some a) n c 0 0 Trym.underlying22
  have hm : n ≤ maxLen := by unfold maxLen; omega
  have hd : decide (n ≤ 1048576) = true := decide_eq_true hn
  have hmk := run_make_row' (P := Trym.prog) 22 5 (.int .u8 0) 1 Trym.underlying22 info5 rfl .i64 .i64 n (by omega) (by omega)
  obtain ⟨X, hX⟩ : ∃ X, X = (zs.take n).map (Value.int .u8) := ⟨_, rfl⟩
  have hXl : X.length = n := by rw [hX]; simp; omega
  have hXc : ∀ j v, X[j]? = some v → w.cell? (a.add j) = some v := by
    intro j v hv
    rw [hX, List.getElem?_map, List.getElem?_take] at hv
    by_cases hj : j < n
    · rw [if_pos hj, List.getElem?_eq_getElem (by omega)] at hv
      rw [hcell j (by omega), List.getD_eq_getElem?_getD, List.getElem?_eq_getElem (by omega)]
      simpa using hv
    · rw [if_neg hj] at hv; simp at hv
  have hX1 : ∀ v ∈ X, v.oneCell' = true := by
    intro v hv
    rw [hX] at hv
    obtain ⟨z, _, rfl⟩ := List.mem_map.1 hv
    rfl
  have HX : Hid ((X.length = n ∧ ∀ j v, X[j]? = some v → w.cell? (a.add j) = some v) ∧ ∀ v ∈ X, v.oneCell' = true) := ⟨⟨hXl, hXc⟩, hX1⟩
  clear hX hXl hXc hX1 hcell
  go_enter Trym.func3, Trym.ntmps3
  go_wp2_with (first
    | (go_at_call 5; refine (bytes_any _ _ _ _ hm).mono ?_; rintro e w' ⟨rfl, rfl⟩)
    | (refine wpList_copy_splice rfl (.tmp 23) (.tmp 24) 22 22 rfl 5 Trym.underlying22 size5 _ _ _ _ _ _ rfl rfl w.heap.size 0 (madeCells #[.int .u8 0] n).toList 5 (made_at w n) X (made_min HX.out.1.1) (made_src HX.out.1.2 _) (made_fit HX.out.1.1) HX.out.2 w.heap.size w (made_below _ _) (Nat.le_refl _) ?_; intro w2 hg2 hb2)
    | (go_at_call 6; refine (zud_other _ _ _ _ h2).mono ?_; rintro e w' ⟨rfl, rfl⟩))
  go_ret
  exact ⟨rfl, hb2⟩

set_option maxHeartbeats 400000 in
/-- a slice of two bytes -/
theorem match_two (a : Addr) (n c : Nat) (hn2 : n = 2) (x y : Int) (w : World) (x0 : 0 ≤ x) (x1 : x ≤ 255) (y0 : 0 ≤ y) (y1 : y ≤ 255)
    (hc0 : w.cell? (a.add 0) = some (.int .u8 x)) (hc1 : w.cell? (a.add 1) = some (.int .u8 y)) :
    Calls Trym.prog 3 #[.slice (some a) n c] w fun e w' => e = .returned (.bool true) ∧ Below w.heap.size w w' := by
  have hq : ∀ W, (binOp .neq 22 (.slice (some a) n c) (.slice none 0 0)).run Trym.prog W = .ok (.bool true) W := fun W => run_neq_slice_nil_any W 22 5 (some a) n c 0 0 Trym.underlying22
  have hn : n ≤ 1048576 := by omega
  have hm : n ≤ maxLen := by unfold maxLen; omega
  have hd : decide (n ≤ 1048576) = true := decide_eq_true hn
  have h2 : ((n : Int) == 2) = true := by subst hn2; rfl
  have i0 : (0 : Int) < (n : Int) := by omega
  have i1 : (1 : Int) < (n : Int) := by omega
  have HN : Hid (n = 2) := hn2
  have hmk := run_make_row' (P := Trym.prog) 22 5 (.int .u8 0) 1 Trym.underlying22 info5 rfl .i64 .i64 n (by omega) (by omega)
  have HX : Hid ((([.int .u8 x, .int .u8 y] : List Value).length = n ∧ ∀ j v, ([.int .u8 x, .int .u8 y] : List Value)[j]? = some v → w.cell? (a.add j) = some v) ∧ ∀ v ∈ ([.int .u8 x, .int .u8 y] : List Value), v.oneCell' = true) := by
    refine ⟨⟨hn2.symm, ?_⟩, ?_⟩
    · intro j v hv
      match j, hv with
      | 0, hv => simp at hv; rw [hc0, hv]
      | 1, hv => simp at hv; rw [hc1, hv]
      | j + 2, hv => simp at hv
    · intro v hv
      simp at hv
      rcases hv with rfl | rfl <;> rfl
  clear hc0 hc1 hn2
  by_cases hT : 129 ≤ x ∧ x ≤ 254 ∧ 64 ≤ y ∧ y ≤ 254 ∧ y ≠ 127
  · have hb := twoB_yes hT
    obtain ⟨t1, t2, t3, t4, t5⟩ := hT
    have T5 : Hid (y ≠ 127) := t5
    clear t5
    go_enter Trym.func3, Trym.ntmps3
    go_wp2_with (first
      | (go_at_call 5; refine (bytes_any _ _ _ _ hm).mono ?_; rintro e w' ⟨rfl, rfl⟩)
      | (refine wpList_copy_splice rfl (.tmp 23) (.tmp 24) 22 22 rfl 5 Trym.underlying22 size5 _ _ _ _ _ _ rfl rfl w.heap.size 0 (madeCells #[.int .u8 0] n).toList 5 (made_at w n) [.int .u8 x, .int .u8 y] (made_min HX.out.1.1) (made_src HX.out.1.2 _) (made_fit HX.out.1.1) HX.out.2 w.heap.size w (made_below _ _) (Nat.le_refl _) ?_; intro w2 hg2 hb2))
    obtain ⟨c0, c1⟩ := cells_two w2 _ _ _ _ _ hg2.out
    go_quiet (fail)
    go_wp2_with (first
      | (go_at_call 7; refine (two_any _ _ _).mono ?_; rintro e w' ⟨rfl, rfl⟩)
      | (go_at_call 8; refine (count_any _ _ _ t1 t2 t3 t4 T5.out).mono ?_; rintro e w' ⟨rfl, rfl⟩)
      | (go_at_call 6; refine (zud_n w.heap.size 0 n n HN.out x y (w2.drewN nq) x0 x1 y0 y1 c0 c1).mono ?_; rintro e w' ⟨rfl, nq2, rfl⟩))
    go_ret
    exact ⟨ret_bool (by simp), below_drewN hb2 _⟩
  · have hb := twoB_no hT
    go_enter Trym.func3, Trym.ntmps3
    go_wp2_with (first
      | (go_at_call 5; refine (bytes_any _ _ _ _ hm).mono ?_; rintro e w' ⟨rfl, rfl⟩)
      | (refine wpList_copy_splice rfl (.tmp 23) (.tmp 24) 22 22 rfl 5 Trym.underlying22 size5 _ _ _ _ _ _ rfl rfl w.heap.size 0 (madeCells #[.int .u8 0] n).toList 5 (made_at w n) [.int .u8 x, .int .u8 y] (made_min HX.out.1.1) (made_src HX.out.1.2 _) (made_fit HX.out.1.1) HX.out.2 w.heap.size w (made_below _ _) (Nat.le_refl _) ?_; intro w2 hg2 hb2))
    obtain ⟨c0, c1⟩ := cells_two w2 _ _ _ _ _ hg2.out
    go_quiet (fail)
    go_wp2_with (first
      | (go_at_call 7; refine (two_any _ _ _).mono ?_; rintro e w' ⟨rfl, rfl⟩))
    go_ret
    exact ⟨rfl, below_drewN hb2 _⟩

end Go.Proofs.Qxb6605254aMods
