/-
  SMALL LAWS THAT THE WALKS OVER map[string]string WANT: the look-up with 'ok' at string elements, the range's step at string keys and string elements, 'make' with a hint, 'is nil'. No program of ours in sight.
-/
import Derived.Maps.RangeWalk
import Derived.Maps.Ext
import Derived.Maps.StringElems
import Derived.WalkKit
import Derived.WalkSpells
import Derived.WalkLawsBesides
namespace Go.Proofs.Qxb6000467aMods
open Go.RowKit Go.Maps

/-- what reads as a key of a string's type is that string -/
theorem key_string_inv {P : Program} {k : TypeId} (hk : P.underlying k = some .string) {key : Value} {kl : Lit} (h : keyOf P k key = some kl) : ∃ s : ByteArray, key = .string s ∧ kl = .string s.data.toList ∧ s.size ≤ maxLen := by
  cases key <;> simp [keyOf, hk, mapKey] at h
  exact ⟨_, rfl, h.2.symm, h.1⟩

/-- 'make(map[K]V, n)' -/
theorem run_makeMap_hint {P : Program} (t k e : TypeId) (ht : P.underlying t = some (.map k e)) (q : IntKind) (n : Int) (w : World) :
    (Instr.makeMap t (some (.int q n))).run P w = .ok (.map (some w.heap.size)) (w.alloc (.map #[] 0)) := by
  simp [Instr.makeMap, run_underlying ht, asInt]
  rfl

section
variable {H : Type} {P : Program} (w : World) {ops : Array Oper} {rest : List Oper} {o : Oper} {a : Act} {Q : Exit → Act → World → Prop}

/-- 'v, ok := m[k]' at string elements: the slot holds SOME string, of which 'hat' says what it is -/
theorem wpList_look_string (hg : o.guard = none) (m x : Operand) (t : TypeId) (hop : o.op = Op.lookup t m x true)
    (k e : TypeId) (K : Keyed P k) (ht : P.underlying t = some (.map k e)) (he : P.underlying e = some .string) (hz : (zeroValue e).run P w = .ok (.string ⟨#[]⟩) w) (b n : Nat) (D : DataW H)
    (hm : a.eval m = .map (some b)) (hown : w.ownsMap P k (plainElem P e) b n D) (key : Value) (kl : Lit) (hx : a.eval x = key) (hkey : keyOf P k key = some kl)
    (hK : ∀ c : ByteArray, Hid (D.atKey kl (.lit (.string [])) = .lit (.string c.data.toList)) → wpList P ops Q rest (a.put o.dst (.tuple #[.string c, .bool (Maps.has D kl)])) w) :
    wpList P ops Q (o :: rest) a w :=
  wpList_lookup_own_ok w hg m x t hop k e K ht (plainElem P e) hz (.lit (.string [])) [] (plainElem_string he (s := ⟨#[]⟩) (Nat.zero_le _)) b n D hm hown key kl hx hkey (fun v ps hv => by
    obtain ⟨c, rfl, hc, _⟩ := plainElem_string_inv he hv
    exact hK c (congrArg Prod.fst hc))

/-- the range's step, string keys, string elements -/
theorem wpList_next_ranges_ss (hg : o.guard = none) (it : Operand) (hop : o.op = Op.next it false) (k e : TypeId) (K : Keyed P k) (hk : P.underlying k = some .string) (he : P.underlying e = some .string)
    (b r n : Nat) (D : DataW H) (left : Lit → Bool) (cnt : Nat) (hit : a.eval it = .pointer (some ⟨r, 0, none⟩)) (h : w.ranges P k (plainElem P e) b r n D left cnt)
    (hDone : cnt = 0 → (∀ kl, left kl = false) → wpList P ops Q rest (a.put o.dst (.tuple #[.bool false])) w)
    (hMore : ∀ (x c : ByteArray) (w' : World) (cnt' : Nat), x.size ≤ maxLen → c.size ≤ maxLen → left (.string x.data.toList) = true → (∀ zd, D.atKey (.string x.data.toList) zd = .lit (.string c.data.toList)) → w'.ranges P k (plainElem P e) b r n D (fun z => left z && !z.sameKey (.string x.data.toList)) cnt' → cnt' < cnt →
      w.grownBy w' (some r) → w'.heap.size = w.heap.size → (Instr.entry (.pointer (some ⟨r, 0, none⟩))).run P w' = .ok (.tuple #[.string x, .string c]) w' → wpList P ops Q rest (a.put o.dst (.tuple #[.bool true, .string x, .string c])) w') :
    wpList P ops Q (o :: rest) a w :=
  wpList_next_ranges w hg it hop k K (plainElem P e) Value.string Value.string (fun key kl hkey => by obtain ⟨x, rfl, _⟩ := key_string_inv hk hkey; exact ⟨x, rfl⟩) (fun v y hv => by obtain ⟨c, rfl, _⟩ := plainElem_string_inv he hv; exact ⟨c, rfl⟩)
    b r n D left cnt hit h hDone (fun x c kl y w' cnt' hkey hlk hv hat hrg hlt hgr hsz hen => by
      obtain ⟨x', ex, rfl, hwx⟩ := key_string_inv hk hkey
      cases ex
      obtain ⟨c', ec, rfl, hwc⟩ := plainElem_string_inv he hv
      cases ec
      exact hMore x c w' cnt' hwx hwc hlk hat hrg hlt hgr hsz hen)

end

theorem bytes_eq {a b : ByteArray} (h : a.data.toList = b.data.toList) : a = b := by
  cases a; cases b
  simp at h
  rw [h]

end Go.Proofs.Qxb6000467aMods
