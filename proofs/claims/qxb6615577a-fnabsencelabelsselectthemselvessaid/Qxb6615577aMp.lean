/- A map[string]string of the call's own, by what it holds at each key. -/
import Derived.Test.Qxb6615577aWi
import Derived.Maps.OwnSet
import Derived.Maps.RangeWalk
import Derived.Maps.StringElems
namespace Go.Proofs.Qxb6615577a
open Go.RowKit Go.Maps

theorem law9 : Keyed Try.prog 9 := string_keyed Try.underlying9
def kOf (s : ByteArray) : Lit := .string s.data.toList
theorem kOf_inj {s t : ByteArray} (h : kOf s = kOf t) : s = t := by
  unfold kOf at h
  simp only [Lit.string.injEq] at h
  cases s; cases t
  simp only [ByteArray.mk.injEq] at h ⊢
  exact Array.toList_inj.1 h
theorem key9 {s : ByteArray} (h : s.size ≤ maxLen) : keyOf Try.prog 9 (.string s) = some (kOf s) := Go.WideMaps.keyOf_string_mk Try.underlying9 h
theorem zero9 (w : World) : (zeroValue 9).run Try.prog w = .ok (.string ByteArray.empty) w := by kernel_rfl

/-- BLOCK b IS A MAP THAT HOLDS V. -/
def OwnM (w : World) (b n : Nat) (V : ByteArray → Option ByteArray) : Prop :=
  ∃ D : DataW Unit, w.ownsMap Try.prog 9 (plainElem Try.prog 9) b n D ∧ (∀ s, Maps.has D (kOf s) = (V s).isSome) ∧ ∀ s v, V s = some v → ∀ z, D.atKey (kOf s) z = .lit (.string v.data.toList)

theorem OwnM.made (w : World) : OwnM (w.alloc (.map #[] 0)) w.heap.size 0 (fun _ => none) :=
  ⟨_, World.ownsMap_made _ _ _ _, fun _ => rfl, fun _ _ h => by cases h⟩
theorem OwnM.lt {w : World} {b n : Nat} {V : ByteArray → Option ByteArray} (h : OwnM w b n V) : b < w.heap.size := by
  obtain ⟨D, h1, _⟩ := h
  exact h1.lt
theorem OwnM.of_block {w w' : World} {b n : Nat} {V : ByteArray → Option ByteArray} (h : OwnM w b n V) (e : w'.heap[b]? = w.heap[b]?) : OwnM w' b n V := by
  obtain ⟨D, ⟨es, c, hb, r⟩, h2⟩ := h
  exact ⟨D, ⟨es, c, e.trans hb, r⟩, h2⟩

theorem OwnM.look {w : World} {b n : Nat} {V : ByteArray → Option ByteArray} (h : OwnM w b n V) {s : ByteArray} (hs : s.size ≤ maxLen) :
    (Instr.lookup 68 (.map (some b)) (.string s) true).run Try.prog w = .ok (.tuple #[.string ((V s).getD ByteArray.empty), .bool (V s).isSome]) w := by
  obtain ⟨D, h1, h2, h3⟩ := h
  obtain ⟨v, ps, hrun, hv⟩ := h1.look_ok law9 Try.underlying68 (zero9 w) (plainElem_string Try.underlying9 (by decide)) (key9 hs)
  obtain ⟨t, rfl, ht, _⟩ := plainElem_string_inv Try.underlying9 hv
  simp only [Prod.mk.injEq] at ht
  rw [hrun, h2 s]
  cases hV : V s with
  | none =>
    have hat := Maps.atKey_of_not_has (D := D) (k := kOf s) (z := .lit (.string ByteArray.empty.data.toList)) (by rw [h2, hV]; rfl)
    rw [hat] at ht
    have : t = ByteArray.empty := kOf_inj (by simpa [kOf] using ht.1.symm)
    rw [this]; rfl
  | some u =>
    rw [h3 s u hV] at ht
    have : t = u := kOf_inj (by simpa [kOf] using ht.1.symm)
    rw [this]; rfl

theorem kOf_key (s : ByteArray) : WideAt.IsKeyLit (kOf s) := by unfold kOf WideAt.IsKeyLit; trivial

theorem OwnM.store {w : World} {b n : Nat} {V : ByteArray → Option ByteArray} (h : OwnM w b n V) (hn : n < maxLen) {s v : ByteArray} (hs : s.size ≤ maxLen) (hv : v.size ≤ maxLen) :
    ∃ w', (Instr.mapUpdate 68 (.map (some b)) (.string s) (.string v)).run Try.prog w = .ok () w' ∧ OwnM w' b (n + 1) (fun t => if t = s then some v else V t) ∧ w.grownBy w' (some b) ∧ w'.heap.size = w.heap.size := by
  obtain ⟨D, h1, h2, h3⟩ := h
  obtain ⟨w', hrun, ho, ht⟩ := h1.store law9 Try.underlying68 hn (key9 hs) (plainElem_string Try.underlying9 hv)
  refine ⟨w', hrun, ⟨_, ho, fun t => ?_, fun t u hu z => ?_⟩, ht.grown, ?_⟩
  · by_cases e : t = s
    · subst e; rw [Maps.has_put_same h1.isMap (kOf_key _)]; simp
    · rw [Maps.has_put_other (fun h => e (kOf_inj h)), h2]; simp [e]
  · by_cases e : t = s
    · subst e
      rw [Maps.atKey_put_same h1.isMap (kOf_key _)]
      simp at hu; rw [hu]
    · rw [Maps.atKey_put_other (fun h => e (kOf_inj h))]
      simp only [if_neg e] at hu
      exact h3 t u hu z
  · obtain ⟨_, _, _, _, _, rfl⟩ := ht
    simp [ChangeMaps.setBlock]

theorem key9_inv {key : Value} {kl : Lit} (h : keyOf Try.prog 9 key = some kl) : ∃ s : ByteArray, key = .string s ∧ kl = kOf s ∧ s.size ≤ maxLen := by
  cases key <;> simp [keyOf, Try.underlying9, mapKey] at h
  obtain ⟨hw, rfl⟩ := h
  refine ⟨_, rfl, rfl, ?_⟩
  simpa [Lit.wf, Array.size] using hw

/-- A RANGE OVER THE MAP UNDER WAY: L says whose turn is still to come. -/
def RangeM (w : World) (b r n : Nat) (V : ByteArray → Option ByteArray) (L : ByteArray → Bool) (cnt : Nat) : Prop :=
  ∃ (D : DataW Unit) (left : Lit → Bool), w.ranges Try.prog 9 (plainElem Try.prog 9) b r n D left cnt ∧ (∀ s, Maps.has D (kOf s) = (V s).isSome) ∧ (∀ s v, V s = some v → ∀ z, D.atKey (kOf s) z = .lit (.string v.data.toList)) ∧ (∀ s, left (kOf s) = L s) ∧ ∀ s, L s = true → (V s).isSome = true

theorem RangeM.kept {w w' : World} {b r n cnt : Nat} {V : ByteArray → Option ByteArray} {L : ByteArray → Bool} {row : Option Nat} (h : RangeM w b r n V L cnt) (hg : w.grownBy w' row) (hb : some b ≠ row) (hr : some r ≠ row) : RangeM w' b r n V L cnt := by
  obtain ⟨D, left, h1, h2⟩ := h
  exact ⟨D, left, h1.kept hg hb hr, h2⟩
theorem RangeM.left_eq {w : World} {b r n cnt : Nat} {V : ByteArray → Option ByteArray} {L : ByteArray → Bool} (h : RangeM w b r n V L cnt) : w.rangeLeft b r = cnt := by
  obtain ⟨D, left, h1, h2⟩ := h
  exact h1.left_eq
theorem RangeM.lt {w : World} {b r n cnt : Nat} {V : ByteArray → Option ByteArray} {L : ByteArray → Bool} (h : RangeM w b r n V L cnt) : r < w.heap.size ∧ b < w.heap.size ∧ r ≠ b := by
  obtain ⟨D, left, h1, h2⟩ := h
  exact ⟨h1.lt, h1.owns.lt, h1.ne⟩

section
variable (w : World) {ops : Array Oper} {rest : List Oper} {o : Oper} {a : Act} {Q : Exit → Act → World → Prop}
theorem wpList_range_M (hg : o.guard = none) (m : Operand) (hop : o.op = Op.range 68 m) (b n : Nat) (V : ByteArray → Option ByteArray) (hm : a.eval m = .map (some b)) (hown : OwnM w b n V)
    (hK : ∀ w' cnt, RangeM w' b w.heap.size n V (fun s => (V s).isSome) cnt → cnt ≤ n → w.grownBy w' none → w'.heap.size = w.heap.size + 1 → wpList Try.prog ops Q rest (a.put o.dst (.pointer (some ⟨w.heap.size, 0, none⟩))) w') :
    wpList Try.prog ops Q (o :: rest) a w := by
  obtain ⟨D, h1, h2, h3⟩ := hown
  exact wpList_range_own w hg m 68 hop 9 9 law9 Try.underlying68 _ b n D hm h1 fun w' hr hgr hsz => hK w' _ ⟨D, _, hr, h2, h3, h2, fun s hs => hs⟩ h1.size_le hgr hsz

theorem sameKey_kOf (s t : ByteArray) : (kOf s).sameKey (kOf t) = decide (s = t) := by
  by_cases e : s = t
  · subst e; simp [WideAt.sameKey_self (kOf_key s)]
  · simp only [e, decide_false]
    cases hs : (kOf s).sameKey (kOf t)
    · rfl
    · exact absurd (kOf_inj (WideAt.sameKey_eq hs)) e

theorem wpList_next_M (hg : o.guard = none) (it : Operand) (hop : o.op = Op.next it false) (b r n : Nat) (V : ByteArray → Option ByteArray) (L : ByteArray → Bool) (cnt : Nat) (hit : a.eval it = .pointer (some ⟨r, 0, none⟩)) (h : RangeM w b r n V L cnt)
    (hDone : (∀ s, L s = false) → wpList Try.prog ops Q rest (a.put o.dst (.tuple #[.bool false])) w)
    (hMore : ∀ (s v : ByteArray) (w' : World) (cnt' : Nat), L s = true → V s = some v → s.size ≤ maxLen → v.size ≤ maxLen → RangeM w' b r n V (fun t => L t && !decide (t = s)) cnt' → cnt' < cnt →
      w.grownBy w' (some r) → w'.heap.size = w.heap.size → (Instr.entry (.pointer (some ⟨r, 0, none⟩))).run Try.prog w' = .ok (.tuple #[.string s, .string v]) w' → wpList Try.prog ops Q rest (a.put o.dst (.tuple #[.bool true, .string s, .string v])) w') :
    wpList Try.prog ops Q (o :: rest) a w := by
  obtain ⟨D, left, h1, h2, h3, h4, h5⟩ := h
  refine wpList_next_ranges w hg it hop 9 law9 (plainElem Try.prog 9) Value.string Value.string (fun key kl hkey => by obtain ⟨s, rfl, _⟩ := key9_inv hkey; exact ⟨s, rfl⟩) (fun v y hv => by obtain ⟨c, rfl, _⟩ := plainElem_string_inv Try.underlying9 hv; exact ⟨c, rfl⟩)
    b r n D left cnt hit h1 (fun _ hl => hDone fun s => (h4 s).symm.trans (hl _)) (fun x c kl y w' cnt' hkey hlk hv hat hrg hlt hgr hsz hen => ?_)
  obtain ⟨s, es, rfl, hs⟩ := key9_inv hkey
  cases es
  obtain ⟨c', ec, rfl, hc⟩ := plainElem_string_inv Try.underlying9 hv
  cases ec
  have hL : L x = true := (h4 x).symm.trans hlk
  have hV : V x = some c := by
    have := h5 x hL
    cases hx : V x with
    | none => rw [hx] at this; cases this
    | some u =>
      have e := (h3 x u hx (.agg [])).symm.trans (hat (.agg []))
      have : u = c := kOf_inj (by simpa [kOf] using e)
      rw [this]
  exact hMore x c w' cnt' hL hV hs hc ⟨D, _, hrg, h2, h3, fun t => by rw [h4, sameKey_kOf], fun t ht => h5 t (by simp at ht; exact ht.1)⟩ hlt hgr hsz hen
end
end Go.Proofs.Qxb6615577a
