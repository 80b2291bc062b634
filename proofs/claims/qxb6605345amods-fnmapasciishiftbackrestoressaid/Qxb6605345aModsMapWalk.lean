/-
  THE WALK of mapASCII: the string's bytes in a row of the call's own, shifted in place, and back.
-/
import Derived.Test.Qxb6605345aModsRows
import Derived.Test.Qxb6605345aModsPlain
import Derived.WalkKit
import Derived.WalkSpells
import Derived.WalkLawsBesides
import Derived.Laws.IdiomStrings
namespace Go.Proofs.Qxb6605345aMods
open Go.RowKit
set_option linter.unusedVariables false

theorem made_below (w : World) (o : Obj) : Below w.heap.size w (w.alloc o) := (Below.refl _ _).alloc (Nat.le_refl _) _

theorem addr_plain (b o i : Nat) : (⟨b, o, none⟩ : Addr).add i = ⟨b, o + i, none⟩ := by unfold Addr.add; split <;> simp_all

/-- the row behind k rounds -/
def rowAt (lo hi sh : Int) (s : ByteArray) (k j : Nat) (hj : j < s.size) : Int := if j < k then ((mb lo hi sh s[j]).toNat : Int) else (s[j].toNat : Int)

/-- the call's own row at g, behind k rounds -/
structure Row (lo hi sh : Int) (s : ByteArray) (k g : Nat) (w : World) : Prop where
  cell : ∀ j (hj : j < s.size), w.cell? ⟨g, j, none⟩ = some (.int .u8 (rowAt lo hi sh s k j hj))
  thaw : ∀ j, j < s.size → w.frozen? ⟨g, j, none⟩ = false

theorem Row.hit {lo hi sh : Int} {s : ByteArray} {k g : Nat} {w : World} (h : Row lo hi sh s k g w) (hk : k < s.size) (n0 : 0 ≤ lo + sh) (n1 : hi + sh ≤ 255) {c : Int} (hc : c = (s[k].toNat : Int)) (hin : lo ≤ c ∧ c ≤ hi) :
    Row lo hi sh s (k + 1) g (w.setCell ⟨g, k, none⟩ (.int .u8 (c + sh))) := by
  subst hc
  refine ⟨fun j hj => ?_, fun j hj => by rw [World.frozen?_setCell]; exact h.thaw j hj⟩
  by_cases hjk : j = k
  · subst hjk
    rw [World.cell?_setCell_same _ _ _ (h.cell j hj)]
    unfold rowAt
    rw [if_pos (Nat.lt_succ_self j), mb_in hin n0 n1]
  · rw [World.cell?_setCell_other _ _ _ _ (by intro e; cases e; exact hjk rfl), h.cell j hj]
    unfold rowAt
    by_cases hjl : j < k
    · rw [if_pos hjl, if_pos (by omega)]
    · rw [if_neg hjl, if_neg (by omega)]

theorem Row.miss {lo hi sh : Int} {s : ByteArray} {k g : Nat} {w : World} (h : Row lo hi sh s k g w) (hk : k < s.size) {c : Int} (hc : c = (s[k].toNat : Int)) (hout : ¬ (lo ≤ c ∧ c ≤ hi)) :
    Row lo hi sh s (k + 1) g w := by
  subst hc
  refine ⟨fun j hj => ?_, h.thaw⟩
  rw [h.cell j hj]
  unfold rowAt
  by_cases hjk : j = k
  · subst hjk
    rw [if_neg (Nat.lt_irrefl j), if_pos (Nat.lt_succ_self j), mb_out hout]
  · by_cases hjl : j < k
    · rw [if_pos hjl, if_pos (by omega)]
    · rw [if_neg hjl, if_neg (by omega)]

theorem conv_to (s : ByteArray) (w : World) : ∃ cap C, (convert 9 42 (.string s)).run Trym.prog w = .ok (.slice (some ⟨w.heap.size, 0, none⟩) s.size cap) (w.drew.alloc (.cells C 5 (C.size, C.size + 1))) ∧
    ∀ lo hi sh, Row lo hi sh s 0 w.heap.size (w.alloc (.cells C 5 (C.size, C.size + 1))).drew := by
  refine ⟨_, _, run_bytes_of_string w 9 42 5 s Trym.underlying9 Trym.underlying42 Trym.underlying5, fun lo hi sh => ⟨fun j hj => ?_, fun j hj => ?_⟩⟩
  · show (w.alloc _).cell? _ = _
    rw [World.cell?_alloc_mark, bytesRow_at s _ j hj]
    rfl
  · show (w.alloc _).frozen? _ = _
    rw [World.frozen?_alloc_mark]
    have : s.size ≤ (bytesRow s (grownCap w s.size 0 5)).size := by simp [bytesRow]
    simp; omega

theorem conv_back (lo hi sh : Int) (s : ByteArray) (cap g : Nat) (w : World) (h : Row lo hi sh s s.size g w) :
    (convert 42 9 (.slice (some ⟨g, 0, none⟩) s.size cap)).run Trym.prog w = .ok (.string (mstr lo hi sh s)) w := by
  have e := run_convert_bytes_back (P := Trym.prog) w 42 9 5 ⟨g, 0, none⟩ cap (s.data.toList.map (mb lo hi sh)) Trym.underlying42 Trym.underlying5 Trym.underlying9 (by
    intro j hj
    have hj' : j < s.size := by rw [List.length_map] at hj; exact hj
    have hc := h.cell j hj'
    unfold rowAt at hc
    rw [if_pos hj'] at hc
    rw [List.getElem_map]
    rw [addr_plain, Nat.zero_add]
    exact hc)
  rw [List.length_map] at e
  exact e

set_option maxHeartbeats 400000 in
theorem map_any (s : ByteArray) (lo hi sh : Int) (w : World) (hs : s.size ≤ 1048576) (l0 : 0 ≤ lo) (l1 : lo ≤ 255) (h0 : 0 ≤ hi) (h1 : hi ≤ 255) (s0 : -255 ≤ sh) (s1 : sh ≤ 255) (n0 : 0 ≤ lo + sh) (n1 : hi + sh ≤ 255) :
    Calls Trym.prog 16 #[.string s, .int .u8 lo, .int .u8 hi, .int .i64 sh] w fun e w' => e = .returned (.string (mstr lo hi sh s)) ∧ Below w.heap.size w w' := by
  obtain ⟨cap, C, hconv, hrow⟩ := conv_to s w
  have HR : Hid (∀ lo hi sh, Row lo hi sh s 0 w.heap.size (w.alloc (.cells C 5 (C.size, C.size + 1))).drew) := hrow
  clear hrow
  go_enter Trym.func16, Trym.ntmps16
  go_wp2
  go_loopw [16] (fun i wr => ∃ k : Nat, k ≤ s.size ∧ i = .int .i64 k ∧ Row lo hi sh s k w.heap.size wr ∧ Below w.heap.size w wr) (fun i _ => s.size - (intOf i).toNat)
  case atStart => exact ⟨0, Nat.zero_le _, rfl, HR.out lo hi sh, (made_below _ _).drew⟩
  case round =>
    obtain ⟨k, hk, rfl, hr, hb⟩ := hrel
    by_cases hlt : k < s.size
    · obtain ⟨c, hc⟩ : ∃ c : Int, c = (s[k].toNat : Int) := ⟨_, rfl⟩
      have hb0 : 0 ≤ c ∧ c ≤ 255 := by have := s[k].toNat_lt; omega
      obtain ⟨c0, c1⟩ := hb0
      have hcell : wr.cell? ⟨w.heap.size, k, none⟩ = some (.int .u8 c) := by
        have := hr.cell k hlt
        unfold rowAt at this
        rw [if_neg (Nat.lt_irrefl k)] at this
        rw [this, hc]
      have hfz : wr.frozen? ⟨w.heap.size, k, none⟩ = false := hr.thaw k hlt
      have HC : Hid (c = (s[k].toNat : Int)) := hc
      clear hc
      by_cases hin : lo ≤ c ∧ c ≤ hi
      · obtain ⟨i0, i1⟩ := hin
        go_wp2
        go_roundw
        case rel => exact ⟨k + 1, by omega, by go_num, hr.hit hlt n0 n1 HC.out ⟨i0, i1⟩, hb.setCell (Nat.le_refl _) _⟩
        case measure => simp [intOf]; omega
      · by_cases i0 : lo ≤ c
        · have i1 : ¬ c ≤ hi := fun h => hin ⟨i0, h⟩
          clear hin
          go_wp2
          go_roundw
          case rel => exact ⟨k + 1, by omega, by go_num, hr.miss hlt HC.out (by omega), hb⟩
          case measure => simp [intOf]; omega
        · clear hin
          go_wp2
          go_roundw
          case rel => exact ⟨k + 1, by omega, by go_num, hr.miss hlt HC.out (by omega), hb⟩
          case measure => simp [intOf]; omega
    · have he : k = s.size := by omega
      subst he
      have hback := conv_back lo hi sh s cap w.heap.size wr hr
      go_wp2
      go_ret
      exact ⟨rfl, hb⟩

set_option maxHeartbeats 400000 in
theorem zmap_any (s : ByteArray) (lo hi sh : Int) (w : World) (hs : s.size ≤ 1048576) (l0 : 0 ≤ lo) (l1 : lo ≤ 255) (h0 : 0 ≤ hi) (h1 : hi ≤ 255) (s0 : -255 ≤ sh) (s1 : sh ≤ 255) (n0 : 0 ≤ lo + sh) (n1 : hi + sh ≤ 255) :
    Calls Trym.prog 13 #[.string s, .int .u8 lo, .int .u8 hi, .int .i64 sh] w fun e w' => e = .returned (.string (mstr lo hi sh s)) ∧ Below w.heap.size w w' := by
  go_enter Trym.func13, Trym.ntmps13
  go_wp2_with (go_at_call 16; refine (map_any _ _ _ _ _ hs l0 l1 h0 h1 s0 s1 n0 n1).mono ?_; rintro e w' ⟨rfl, hb⟩)
  go_ret
  exact ⟨rfl, hb⟩

theorem ret_bool {a b : Bool} (h : a = b) : Ending.returned (.bool a) = .returned (.bool b) := by rw [h]

set_option maxHeartbeats 400000 in
theorem bytes_any (s : ByteArray) (lo hi sh : Int) (w : World) (hs : s.size ≤ maxLen) :
    Calls Trym.prog 12 #[.string s, .int .u8 lo, .int .u8 hi, .int .i64 sh] w fun e w' => e = .returned (.bool (decide (s.size ≤ 1048576))) ∧ w = w' := by
  unfold maxLen at hs
  by_cases h : s.size ≤ 1048576
  all_goals
    go_enter Trym.func12, Trym.ntmps12
    go_wp2
    go_ret
    exact ⟨ret_bool (by simp; omega), rfl⟩

end Go.Proofs.Qxb6605345aMods
