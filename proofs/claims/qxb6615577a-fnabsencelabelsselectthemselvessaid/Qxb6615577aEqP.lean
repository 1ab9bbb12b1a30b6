/- What equalityLabels means. No Go in sight. -/
import Derived.Test.Qxb6615577aMp
import Derived.Deep.AppendLies
namespace Go.Proofs.Qxb6615577a
open Go.RowKit

structure Mtc where
  ty : Int
  nm : ByteArray
  vl : ByteArray
def bName : ByteArray := { data := #[95, 95, 110, 97, 109, 101, 95, 95] }
def Mtc.eq (m : Mtc) : Bool := decide (m.ty = 0) && !(m.nm.toList == bName.toList)

theorem toList_inj {a b : ByteArray} (h : a.toList = b.toList) : a = b := by
  rw [ByteArray.toList_eq, ByteArray.toList_eq] at h
  exact congrArg ByteArray.mk (Array.toList_inj.1 h)
theorem toList_beq (a b : ByteArray) : (a.toList == b.toList) = decide (a = b) := by
  by_cases e : a = b
  · subst e; simp
  · simp only [e, decide_false, beq_eq_false_iff_ne]; exact fun h => e (toList_inj h)

/-- The map behind i rounds. -/
def Vf (M : Nat → Mtc) : Nat → ByteArray → Option ByteArray
  | 0, _ => none
  | i + 1, t => if (M i).eq = true ∧ t = (M i).nm then some (M i).vl else Vf M i t
/-- s has been told of two values. -/
def Clash (M : Nat → Mtc) (i : Nat) (s : ByteArray) : Prop := ∃ j, j < i ∧ (M j).eq = true ∧ (M j).nm = s ∧ ∃ v, Vf M j s = some v ∧ v ≠ (M j).vl

theorem Vf_some {M : Nat → Mtc} : ∀ {i : Nat} {s v : ByteArray}, Vf M i s = some v → ∃ j, j < i ∧ (M j).eq = true ∧ (M j).nm = s ∧ (M j).vl = v
  | i + 1, s, v, h => by
    unfold Vf at h
    split at h
    · rename_i c; exact ⟨i, by omega, c.1, c.2.symm, Option.some.inj h⟩
    · obtain ⟨j, hj, r⟩ := Vf_some h; exact ⟨j, by omega, r⟩
theorem Vf_none {M : Nat → Mtc} : ∀ {i : Nat} {s : ByteArray}, Vf M i s = none → ∀ j, j < i → (M j).eq = true → (M j).nm ≠ s
  | i + 1, s, h, j, hj, he => by
    unfold Vf at h
    split at h
    · cases h
    · rename_i c
      by_cases e : j = i
      · subst e; exact fun e2 => c ⟨he, e2.symm⟩
      · exact Vf_none h j (by omega) he

theorem Clash.up {M : Nat → Mtc} {i : Nat} {s : ByteArray} (h : Clash M i s) : Clash M (i + 1) s := by
  obtain ⟨j, hj, r⟩ := h; exact ⟨j, by omega, r⟩

/-- The labels that the equality matchers fix. -/
def Fixd (M : Nat → Mtc) (n : Nat) (s v : ByteArray) : Prop := (∃ j, j < n ∧ (M j).eq = true ∧ (M j).nm = s) ∧ ∀ j, j < n → (M j).eq = true → (M j).nm = s → (M j).vl = v

theorem agree_of {M : Nat → Mtc} : ∀ {i : Nat} {s v : ByteArray}, ¬ Clash M i s → Vf M i s = some v → ∀ j, j < i → (M j).eq = true → (M j).nm = s → (M j).vl = v
  | i + 1, s, v, hc, h, j, hj, he, hn => by
    have hc' : ¬ Clash M i s := fun c => hc c.up
    unfold Vf at h
    split at h
    · rename_i c
      have hv := Option.some.inj h
      cases hV : Vf M i s with
      | none =>
        by_cases e : j = i
        · subst e; exact hv
        · exact absurd hn (Vf_none hV j (by omega) he)
      | some u =>
        have hu : u = (M i).vl := Classical.byContradiction fun hne => hc ⟨i, by omega, c.1, c.2.symm, u, hV, hne⟩
        by_cases e : j = i
        · subst e; exact hv
        · rw [agree_of hc' hV j (by omega) he hn, hu, hv]
    · rename_i c
      by_cases e : j = i
      · subst e; exact absurd ⟨he, hn.symm⟩ c
      · exact agree_of hc' h j (by omega) he hn

theorem fixd_iff {M : Nat → Mtc} {n : Nat} {s v : ByteArray} : (Vf M n s = some v ∧ ¬ Clash M n s) ↔ Fixd M n s v := by
  constructor
  · rintro ⟨h1, h2⟩
    obtain ⟨j, hj, he, hn, _⟩ := Vf_some h1
    exact ⟨⟨j, hj, he, hn⟩, agree_of h2 h1⟩
  · rintro ⟨⟨j, hj, he, hn⟩, hall⟩
    refine ⟨?_, ?_⟩
    · cases hV : Vf M n s with
      | none => exact absurd hn (Vf_none hV j hj he)
      | some u =>
        obtain ⟨q, hq, he2, hn2, hv⟩ := Vf_some hV
        rw [← hv, hall q hq he2 hn2]
    · rintro ⟨q, hq, he2, hn2, u, hu, hne⟩
      obtain ⟨p, hp, he3, hn3, hv3⟩ := Vf_some hu
      exact hne (by rw [← hv3, hall p (by omega) he3 hn3, hall q hq he2 hn2])

theorem Vf_step_no {M : Nat → Mtc} {i : Nat} (h : (M i).eq = false) : Vf M (i + 1) = Vf M i := by
  funext t; simp [Vf, h]
theorem Vf_step_yes {M : Nat → Mtc} {i : Nat} (h : (M i).eq = true) : Vf M (i + 1) = fun t => if t = (M i).nm then some (M i).vl else Vf M i t := by
  funext t; simp [Vf, h]
theorem Clash_step {M : Nat → Mtc} {i : Nat} {s : ByteArray} : Clash M (i + 1) s ↔ Clash M i s ∨ ((M i).eq = true ∧ (M i).nm = s ∧ ∃ v, Vf M i s = some v ∧ v ≠ (M i).vl) := by
  constructor
  · rintro ⟨j, hj, r⟩
    by_cases e : j = i
    · subst e; exact Or.inr r
    · exact Or.inl ⟨j, by omega, r⟩
  · rintro (h | h)
    · exact h.up
    · exact ⟨i, by omega, h⟩

theorem hasB_iff {f : Nat → ByteArray} {s : ByteArray} : ∀ {m : Nat}, hasB f m s = true ↔ ∃ i, i < m ∧ f i = s
  | 0 => by simp [hasB]
  | m + 1 => by
    rw [hasB, Bool.or_eq_true, hasB_iff, toList_beq, decide_eq_true_eq]
    constructor
    · rintro (⟨i, hi, e⟩ | e)
      · exact ⟨i, by omega, e⟩
      · exact ⟨m, by omega, e.symm⟩
    · rintro ⟨i, hi, e⟩
      by_cases c : i = m
      · subst c; exact Or.inr e.symm
      · exact Or.inl ⟨i, by omega, e⟩
theorem hasB_mem {cl : List ByteArray} {s : ByteArray} : hasB (fun i => cl.getD i ByteArray.empty) cl.length s = true ↔ s ∈ cl := by
  rw [hasB_iff, List.mem_iff_getElem]
  constructor
  · rintro ⟨i, hi, e⟩; exact ⟨i, hi, by rw [← e]; simp [List.getD, List.getElem?_eq_getElem hi]⟩
  · rintro ⟨i, hi, e⟩; exact ⟨i, hi, by rw [← e]; simp [List.getD, List.getElem?_eq_getElem hi]⟩

theorem bl_tri : ∀ (a b : List UInt8), a ≠ b → Op.bytesLess a b = true ∨ Op.bytesLess b a = true
  | [], [], h => absurd rfl h
  | [], _ :: _, _ => Or.inl rfl
  | _ :: _, [], _ => Or.inr rfl
  | x :: l, y :: m, h => by
    simp only [Op.bytesLess, Bool.or_eq_true, decide_eq_true_eq, Bool.and_eq_true, beq_iff_eq]
    by_cases e : x = y
    · subst e
      rcases bl_tri l m (fun e => h (by rw [e])) with r | r
      · exact Or.inl (Or.inr ⟨rfl, r⟩)
      · exact Or.inr (Or.inr ⟨rfl, r⟩)
    · have : x.toNat ≠ y.toNat := fun e2 => e (UInt8.toNat_inj.1 e2)
      rcases Nat.lt_or_gt_of_ne this with r | r
      · exact Or.inl (Or.inl r)
      · exact Or.inr (Or.inl r)

theorem ltN_of_ne {x y : Lab} (h : x.1 ≠ y.1) : ltN x y = true ∨ ltN y x = true := bl_tri _ _ fun e => h (toList_inj e)

/-- Two sorted rows of the same members are one. -/
theorem sorted_unique {r t : Nat → Lab} : ∀ {n m : Nat}, SP.Sorted ltN 0 n r → SP.Sorted ltN 0 m t → (∀ j, j < n → ∃ q, q < m ∧ t q = r j) → (∀ q, q < m → ∃ j, j < n ∧ r j = t q) → n ≤ m ∧ ∀ k, k < n → r k = t k := by
  intro n m hr ht h1 h2
  have irr : ∀ x : Lab, ltN x x = false := fun x => bl_irr _
  have key : ∀ k, k < n → k < m ∧ r k = t k := by
    intro k
    induction k using Nat.strongRecOn with
    | ind k ih =>
      intro hk
      obtain ⟨q, hq, eq⟩ := h1 k hk
      have hqk : k ≤ q := by
        rcases Nat.lt_or_ge q k with c | c
        · have := (ih q c (by omega)).2
          have hs := hr q k (Nat.zero_le _) c hk
          rw [this, eq, irr] at hs; cases hs
        · exact c
      have hkm : k < m := by omega
      refine ⟨hkm, ?_⟩
      by_cases e : q = k
      · subst e; exact eq.symm
      · obtain ⟨j, hj, ej⟩ := h2 k hkm
        have s1 := ht k q (Nat.zero_le _) (by omega) hq
        rw [eq, ← ej] at s1
        have hjk : j < k := by
          rcases Nat.lt_trichotomy j k with c | c | c
          · exact c
          · subst c; rw [irr] at s1; cases s1
          · have := hr k j (Nat.zero_le _) c hj
            have := bl_tr _ _ _ this s1
            rw [bl_irr] at this; cases this
        have := (ih j hjk (by omega)).2
        have s2 := ht j k (Nat.zero_le _) hjk hkm
        rw [← this, ej, irr] at s2; cases s2
  refine ⟨?_, fun k hk => (key k hk).2⟩
  rcases Nat.eq_zero_or_pos n with c | c
  · omega
  · have := (key (n - 1) (by omega)).1; omega
theorem sorted_same {r t : Nat → Lab} {n m : Nat} (hr : SP.Sorted ltN 0 n r) (ht : SP.Sorted ltN 0 m t) (h1 : ∀ j, j < n → ∃ q, q < m ∧ t q = r j) (h2 : ∀ q, q < m → ∃ j, j < n ∧ r j = t q) : n = m ∧ ∀ k, k < n → r k = t k := by
  have a := sorted_unique hr ht h1 h2
  have b := sorted_unique ht hr h2 h1
  exact ⟨by omega, a.2⟩

/-- The cells of a list of labels. -/
def labCells (l : List Lab) : List Value := l.flatMap fun x => [.string x.1, .string x.2]
theorem labCells_length : ∀ l : List Lab, (labCells l).length = l.length * 2
  | [] => rfl
  | x :: l => by
    have := labCells_length l
    unfold labCells at this ⊢
    rw [List.flatMap_cons, List.length_append, this]; simp; omega
theorem labCells_append (l : List Lab) (x : Lab) : labCells (l ++ [x]) = labCells l ++ [.string x.1, .string x.2] := by simp [labCells]
theorem labCells_at : ∀ (l : List Lab) (i : Nat) (x : Lab), l[i]? = some x → (labCells l)[i * 2]? = some (.string x.1) ∧ (labCells l)[i * 2 + 1]? = some (.string x.2)
  | [], i, x, h => by simp at h
  | y :: l, 0, x, h => by simp at h; subst h; simp [labCells]
  | y :: l, i + 1, x, h => by
    have := labCells_at l i x (by simpa using h)
    have e : labCells (y :: l) = .string y.1 :: .string y.2 :: labCells l := rfl
    rw [e, show (i + 1) * 2 = i * 2 + 2 by omega]
    simpa using this
def labF (l : List Lab) (i : Nat) : Lab := l.getD i (ByteArray.empty, ByteArray.empty)
theorem labF_mem {l : List Lab} {x : Lab} : x ∈ l ↔ ∃ i, i < l.length ∧ labF l i = x := by
  rw [List.mem_iff_getElem]
  constructor
  · rintro ⟨i, hi, e⟩; exact ⟨i, hi, by rw [← e]; simp [labF, List.getD, List.getElem?_eq_getElem hi]⟩
  · rintro ⟨i, hi, e⟩; exact ⟨i, hi, by rw [← e]; simp [labF, List.getD, List.getElem?_eq_getElem hi]⟩
theorem labF_at {l : List Lab} {i : Nat} (h : i < l.length) : l[i]? = some (labF l i) := by simp [labF, List.getD, List.getElem?_eq_getElem h]

theorem Row.of_owns {w : World} {base n : Nat} {v : Value} {l : List Lab} (h : w.ownsRow base 31 2 v n (labCells l)) (hn : 0 < n) : ∃ g cap, v = .slice (some ⟨g, 0, none⟩) n cap ∧ base ≤ g ∧ n ≤ cap ∧ n = l.length ∧ Row w g n (labF l) := by
  obtain ⟨hl, h | ⟨g, cap, cur, hv, hb, hc, hcap, _, hsz, ht⟩⟩ := h
  · omega
  · rw [labCells_length] at hl
    have hn' : n = l.length := by omega
    refine ⟨g, cap, hv, hb, hcap, hn', cur, hc, by omega, fun i hi => ?_⟩
    have := labCells_at l i _ (labF_at (by omega))
    rw [← ht, List.getElem?_take, if_pos (by omega), List.getElem?_take, if_pos (by omega)] at this
    simpa using this

theorem StrIn.of_owns {w : World} {base n : Nat} {co : Option Addr} {cc : Nat} {cl : List ByteArray} (h : w.ownsRow base 9 1 (.slice co n cc) n (cl.map Value.string)) : StrIn w co n (fun i => cl.getD i ByteArray.empty) ∧ (∀ C, co = some ⟨C, 0, none⟩ → C < w.heap.size) ∧ n = cl.length := by
  obtain ⟨hl, h | ⟨g, cap, cur, hv, hb, hc, hcap, _, hsz, ht⟩⟩ := h
  · obtain ⟨e, rfl⟩ := h
    injection e with e1 e2 e3
    subst e1
    exact ⟨fun i hi => by omega, fun C e => (by cases e), by simpa using hl.symm⟩
  · injection hv with e1 e2 e3
    subst e1
    refine ⟨fun i hi => ⟨g, rfl, ?_⟩, fun C e => ?_, by simpa using hl.symm⟩
    · have hi' : i < cl.length := by simp at hl; omega
      have : (cl.map Value.string)[i]? = some (.string (cl.getD i ByteArray.empty)) := by simp [List.getElem?_eq_getElem hi']
      rw [← ht, List.getElem?_take, if_pos (by omega)] at this
      simpa [World.cell?, hc] using this
    · injection e with e; injection e with e
      subst e
      exact (Array.getElem?_eq_some_iff.1 hc).1
end Go.Proofs.Qxb6615577a
