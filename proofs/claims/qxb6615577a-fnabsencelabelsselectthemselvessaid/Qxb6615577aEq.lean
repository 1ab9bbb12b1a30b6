/- equalityLabels (27). -/
import Derived.Test.Qxb6615577aEqP
namespace Go.Proofs.Qxb6615577a
open Go.RowKit

theorem bName_list : bName.toList = [95, 95, 110, 97, 109, 101, 95, 95] := by rw [ByteArray.toList_eq]; rfl
theorem Try.info9 : (Try.prog.info? 9).map (fun i => (i.zero, i.size, i.bytes)) = some (some (.string ByteArray.empty), 1, 16) := by kernel_rfl

/-- The matchers, behind their pointers. -/
def Mat (w : World) (po : Option Addr) (n : Nat) (M : Nat → Mtc) : Prop := ∀ i, i < n → ∃ P q, po = some ⟨P, 0, none⟩ ∧ P < w.heap.size ∧ q < w.heap.size ∧ w.cell? ⟨P, i, none⟩ = some (.pointer (some ⟨q, 0, none⟩)) ∧
  w.cell? ⟨q, 0, none⟩ = some (.int .i64 (M i).ty) ∧ w.cell? ⟨q, 1, none⟩ = some (.string (M i).nm) ∧ w.cell? ⟨q, 2, none⟩ = some (.string (M i).vl) ∧ (M i).nm.size ≤ maxLen ∧ (M i).vl.size ≤ maxLen
theorem Mat.below {w w' : World} {po : Option Addr} {n : Nat} {M : Nat → Mtc} (h : Mat w po n M) (hb : Below w.heap.size w w') : Mat w' po n M := fun i hi => by
  obtain ⟨P, q, h0, h1, h2, h3, h4, h5, h6, h7⟩ := h i hi
  have := hb.size
  exact ⟨P, q, h0, by omega, by omega, (hb.cell (p := ⟨P, _, none⟩) h1).trans h3, (hb.cell (p := ⟨q, _, none⟩) h2).trans h4, (hb.cell (p := ⟨q, _, none⟩) h2).trans h5, (hb.cell (p := ⟨q, _, none⟩) h2).trans h6, h7⟩

/-- What equalityLabels hands back. -/
def EqR (M : Nat → Mtc) (n : Nat) (w w' : World) (so' : Option Addr) (n' : Nat) (r' : Nat → Lab) : Prop :=
  n' ≤ n ∧ LabRow w' so' n' r' ∧ SP.Sorted ltN 0 n' r' ∧ Below w.heap.size w w' ∧ ∀ s v, (∃ j, j < n' ∧ r' j = (s, v)) ↔ v.toList ≠ [] ∧ Fixd M n s v

/-- Behind i rounds of the first loop. -/
structure S1 (M : Nat → Mtc) (w wr : World) (i : Nat) (co : Option Addr) (m cc : Nat) (cl : List ByteArray) : Prop where
  own : OwnM wr w.heap.size i (Vf M i)
  row : wr.ownsRow (w.heap.size + 1) 9 1 (.slice co m cc) m (cl.map Value.string)
  mem : ∀ s, s ∈ cl ↔ Clash M i s
  bel : Below w.heap.size w wr

theorem row_kept {wr w2 : World} {base n : Nat} {e : TypeId} {size : Nat} {x : Value} {xs : List Value} {row : Option Nat} (h : wr.ownsRow base e size x n xs) (hg : wr.grownBy w2 row) (hb : ∀ b, row = some b → b < base) : w2.ownsRow base e size x n xs := by
  obtain ⟨h1, h2 | ⟨g, cap, cur, h3, h4, h5, h6⟩⟩ := h
  · exact ⟨h1, Or.inl h2⟩
  · exact ⟨h1, Or.inr ⟨g, cap, cur, h3, h4, (hg.block g (Array.getElem?_eq_some_iff.1 h5).1 (by intro e; have := hb g e.symm; omega)).trans h5, h6⟩⟩

theorem S1.more {M : Nat → Mtc} {w wr w2 : World} {i m cc : Nat} {co : Option Addr} {cl : List ByteArray} (h : S1 M w wr i co m cc cl) (he : (M i).eq = true) (hno : ¬ ∃ v, Vf M i (M i).nm = some v ∧ v ≠ (M i).vl) (ho : OwnM w2 w.heap.size (i + 1) (fun t => if t = (M i).nm then some (M i).vl else Vf M i t)) (hg : wr.grownBy w2 (some w.heap.size)) : S1 M w w2 (i + 1) co m cc cl := by
  refine ⟨by rw [Vf_step_yes he]; exact ho, row_kept h.row hg (fun b e => by cases e; omega), fun s => ?_, h.bel.grown hg h.bel.size (fun j hj => by cases hj; exact Nat.le_refl _)⟩
  rw [h.mem, Clash_step]
  constructor
  · exact Or.inl
  · rintro (c | ⟨_, e, c⟩)
    · exact c
    · subst e; exact absurd c hno

theorem S1.skip {M : Nat → Mtc} {w wr : World} {i m cc : Nat} {co : Option Addr} {cl : List ByteArray} (h : S1 M w wr i co m cc cl) (he : (M i).eq = false) : S1 M w wr (i + 1) co m cc cl := by
  refine ⟨?_, h.row, fun s => ?_, h.bel⟩
  · rw [Vf_step_no he]
    obtain ⟨D, ⟨es, c, hb, r1, r2, r3⟩, h2⟩ := h.own
    exact ⟨D, ⟨es, c, hb, r1, by omega, r3⟩, h2⟩
  · rw [h.mem, Clash_step, he]; simp

theorem S1.app {M : Nat → Mtc} {w wr : World} {i m cc : Nat} {co : Option Addr} {cl : List ByteArray} (h : S1 M w wr i co m cc cl) (hm : m ≤ 1048576) (s : ByteArray) (ty : TypeId) :
    ∃ g cap' w1, (Builtin.append_ #[69, 69] ty #[.slice co m cc, .slice (some ⟨wr.heap.size, 0, none⟩) 1 1]).run Try.prog (wr.alloc (.cells #[.string s] 9)) = .ok (.slice (some ⟨g, 0, none⟩) (m + 1) cap') w1 ∧
      OwnM w1 w.heap.size i (Vf M i) ∧ w1.ownsRow (w.heap.size + 1) 9 1 (.slice (some ⟨g, 0, none⟩) (m + 1) cap') (m + 1) ((cl ++ [s]).map Value.string) ∧ Below w.heap.size w w1 := by
  obtain ⟨i0, hi0, hz0, hz1, hz2⟩ := info_parts Try.info9
  have hlt := h.own.lt
  have hg0 := World.grownBy_alloc wr (.cells #[.string s] 9) none
  have hrow := row_kept h.row hg0 (fun b e => by cases e)
  obtain ⟨g, cap', w1, hr, h2, h3, _, _⟩ := run_append_lies (P := Try.prog) (wr.alloc (.cells #[.string s] 9)) 69 ty (w.heap.size + 1) 9 i0 _ 1 16 Try.underlying69 hi0 hz0 hz1 hz2 rfl (by omega) _ m _ hrow
    ⟨wr.heap.size, 0, none⟩ 1 1 [.string s] rfl (fun j u hu => by
      match j, hu with
      | 0, hu => simp at hu; subst hu; simp [Addr.add]) (by intro u hu; simp at hu; subst hu; rfl) (by omega) (by unfold maxLen; omega) (by omega) (by simp; omega) _ rfl
  have hne : ∀ b, (Value.slice co m cc).ownBlock = some b → w.heap.size + 1 ≤ b := by
    intro b hb
    rcases h.row.2 with ⟨e, _⟩ | ⟨g, cap, cur, e, h4, _⟩
    · rw [e] at hb; cases hb
    · rw [e] at hb; cases hb; exact h4
  refine ⟨g, cap', w1, hr, ?_, by simpa using h2, ?_⟩
  · refine h.own.of_block ?_
    rw [h3.block w.heap.size (by simp; omega) (fun e => by have := hne _ e.symm; omega)]
    exact Below.heap_alloc _ _ _ hlt
  · exact (h.bel.alloc h.bel.size _).grown h3 (by have := h.bel.size; simp; omega) (fun j hj => by have := hne _ hj; omega)

theorem S1.clash {M : Nat → Mtc} {w wr w1 w2 : World} {i m cc g cap' : Nat} {co : Option Addr} {cl : List ByteArray} {u : ByteArray} (h : S1 M w wr i co m cc cl) (he : (M i).eq = true) (hV : Vf M i (M i).nm = some u) (hne : u ≠ (M i).vl)
    (hr : w1.ownsRow (w.heap.size + 1) 9 1 (.slice (some ⟨g, 0, none⟩) (m + 1) cap') (m + 1) ((cl ++ [(M i).nm]).map Value.string)) (hb : Below w.heap.size w w1) (ho : OwnM w2 w.heap.size (i + 1) (fun t => if t = (M i).nm then some (M i).vl else Vf M i t)) (hg : w1.grownBy w2 (some w.heap.size)) :
    S1 M w w2 (i + 1) (some ⟨g, 0, none⟩) (m + 1) cap' (cl ++ [(M i).nm]) := by
  refine ⟨by rw [Vf_step_yes he]; exact ho, row_kept hr hg (fun b e => by cases e; omega), fun s => ?_, hb.grown hg hb.size (fun j hj => by cases hj; exact Nat.le_refl _)⟩
  rw [List.mem_append, h.mem, Clash_step, List.mem_singleton]
  constructor
  · rintro (c | e)
    · exact Or.inl c
    · subst e; exact Or.inr ⟨he, rfl, u, hV, hne⟩
  · rintro (c | ⟨_, e, _⟩)
    · exact Or.inl c
    · exact Or.inr e.symm

/-- Behind some rounds of the second loop; r: the range's block. -/
structure S2 (M : Nat → Mtc) (n b : Nat) (W0 wr : World) (lo : Option Addr) (k lc : Nat) (acc : List Lab) (L : ByteArray → Bool) (cnt : Nat) : Prop where
  rng : RangeM wr b W0.heap.size n (Vf M n) L cnt
  row : wr.ownsRow (W0.heap.size + 1) 31 2 (.slice lo k lc) k (labCells acc)
  mem : ∀ s v, (s, v) ∈ acc ↔ Vf M n s = some v ∧ L s = false
  dist : acc.Pairwise fun x y => x.1 ≠ y.1
  cnt : k + cnt ≤ n
  nil : k = 0 → lo = none ∧ lc = 0
  bel : Below W0.heap.size W0 wr
  lt : b < W0.heap.size

theorem S2.app {M : Nat → Mtc} {n b : Nat} {W0 wr w' : World} {lo : Option Addr} {k lc : Nat} {acc : List Lab} {L : ByteArray → Bool} {cnt cnt' : Nat} (h : S2 M n b W0 wr lo k lc acc L cnt) (hn : n ≤ 1048576) {s v : ByteArray} (hL : L s = true) (hV : Vf M n s = some v)
    (hrg : RangeM w' b W0.heap.size n (Vf M n) (fun t => L t && !decide (t = s)) cnt') (hc : cnt' < cnt) (hg : wr.grownBy w' (some W0.heap.size)) (ty : TypeId) :
    ∃ g cap' w1, (Builtin.append_ #[25, 25] ty #[.slice lo k lc, .slice (some ⟨w'.heap.size, 0, none⟩) 1 1]).run Try.prog (w'.alloc (.cells #[.string s, .string v] 31)) = .ok (.slice (some ⟨g, 0, none⟩) (k + 1) cap') w1 ∧
      S2 M n b W0 w1 (some ⟨g, 0, none⟩) (k + 1) cap' (acc ++ [(s, v)]) (fun t => L t && !decide (t = s)) cnt' := by
  obtain ⟨i0, hi0, hz0, hz1, hz2⟩ := info_parts Try.info31
  have hcn := h.cnt
  have hlt := hrg.lt
  have hb := h.lt
  have hrow1 := row_kept h.row hg (fun b e => by cases e; omega)
  have hg0 := World.grownBy_alloc w' (.cells #[.string s, .string v] 31) none
  have hrow := row_kept hrow1 hg0 (fun b e => by cases e)
  obtain ⟨g, cap', w1, hr, h2, h3, _, _⟩ := run_append_lies (P := Try.prog) (w'.alloc (.cells #[.string s, .string v] 31)) 25 ty (W0.heap.size + 1) 31 i0 _ 2 32 Try.underlying25 hi0 hz0 hz1 hz2 rfl (by omega) _ k _ hrow
    ⟨w'.heap.size, 0, none⟩ 1 1 [.string s, .string v] rfl (fun j u hu => by
      match j, hu with
      | 0, hu => simp at hu; subst hu; simp [Addr.add]
      | 1, hu => simp at hu; subst hu; simp [Addr.add]) (by intro u hu; simp at hu; rcases hu with rfl | rfl <;> rfl) (by omega) (by unfold maxLen; omega) (by omega) (by simp; omega) _ rfl
  have hne : ∀ b, (Value.slice lo k lc).ownBlock = some b → W0.heap.size + 1 ≤ b := by
    intro b hb
    rcases h.row.2 with ⟨e, _⟩ | ⟨g, cap, cur, e, h4, _⟩
    · rw [e] at hb; cases hb
    · rw [e] at hb; cases hb; exact h4
  refine ⟨g, cap', w1, hr, (hrg.kept hg0 (by simp) (by simp)).kept h3 (fun e => by have := hne _ e.symm; omega) (fun e => by have := hne _ e.symm; omega), by rw [labCells_append]; exact h2, fun s' v' => ?_, ?_, by omega, fun e => by omega, ?_, hb⟩
  · rw [List.mem_append, h.mem, List.mem_singleton, Prod.mk.injEq]
    constructor
    · rintro (⟨a1, a2⟩ | ⟨rfl, rfl⟩)
      · exact ⟨a1, by simp [a2]⟩
      · exact ⟨hV, by simp⟩
    · rintro ⟨a1, a2⟩
      simp only [Bool.and_eq_false_imp, Bool.not_eq_false', decide_eq_true_eq] at a2
      cases hL' : L s'
      · exact Or.inl ⟨a1, rfl⟩
      · have e := a2 hL'
        subst e
        rw [hV] at a1
        exact Or.inr ⟨rfl, (Option.some.inj a1).symm⟩
  · rw [List.pairwise_append]
    refine ⟨h.dist, List.pairwise_singleton _ _, fun x hx y hy e => ?_⟩
    rw [List.mem_singleton] at hy
    subst hy
    have := ((h.mem x.1 x.2).1 hx).2
    rw [e] at this
    rw [hL] at this; cases this
  · exact ((h.bel.grown hg h.bel.size (fun j hj => by cases hj; exact Nat.le_refl _)).alloc (by have := h.bel.size; have := hg.size; omega) _).grown h3 (by simp; omega) (fun j hj => by have := hne _ hj; omega)

theorem S2.distinct {M : Nat → Mtc} {n b : Nat} {W0 wr : World} {lo : Option Addr} {k lc : Nat} {acc : List Lab} {L : ByteArray → Bool} {cnt : Nat} (h : S2 M n b W0 wr lo k lc acc L cnt) : k = acc.length ∧ SP.Dist ltN k (labF acc) := by
  have hk : k = acc.length := by have := h.row.1; rw [labCells_length] at this; omega
  refine ⟨hk, fun i j hi hj hne => ltN_of_ne ?_⟩
  have hd := List.pairwise_iff_getElem.1 h.dist
  have e : ∀ q (hq : q < acc.length), labF acc q = acc[q] := fun q hq => by simp [labF, List.getD, List.getElem?_eq_getElem hq]
  rw [e i (by omega), e j (by omega)]
  rcases Nat.lt_or_gt_of_ne hne with c | c
  · exact hd i j (by omega) (by omega) c
  · exact fun e => hd j i (by omega) (by omega) c e.symm

theorem eq_members {M : Nat → Mtc} {n : Nat} {cl : List ByteArray} {acc : List Lab} {L : ByteArray → Bool} {m' n' : Nat} {r r' : Nat → Lab} (hcl : ∀ s, s ∈ cl ↔ Clash M n s) (hacc : ∀ s v, (s, v) ∈ acc ↔ Vf M n s = some v ∧ L s = false) (hL : ∀ s, L s = false)
    (h1 : ∀ j, j < m' → (r j).2.toList ≠ [] ∧ ∃ q, q < acc.length ∧ r j = labF acc q) (h2 : ∀ q, q < acc.length → (labF acc q).2.toList ≠ [] → ∃ j, j < m' ∧ r j = labF acc q)
    (h3 : ∀ j, j < n' → hasB (fun i => cl.getD i ByteArray.empty) cl.length (r' j).1 = false ∧ ∃ q, q < m' ∧ r' j = r q) (h4 : ∀ q, q < m' → hasB (fun i => cl.getD i ByteArray.empty) cl.length (r q).1 = false → ∃ j, j < n' ∧ r' j = r q) :
    ∀ s v, (∃ j, j < n' ∧ r' j = (s, v)) ↔ v.toList ≠ [] ∧ Fixd M n s v := by
  intro s v
  rw [← fixd_iff, ← hcl, ← hasB_mem, Bool.not_eq_true]
  constructor
  · rintro ⟨j, hj, e⟩
    obtain ⟨a1, q, hq, a2⟩ := h3 j hj
    obtain ⟨b1, p, hp, b2⟩ := h1 q hq
    have hm : (s, v) ∈ acc := labF_mem.2 ⟨p, hp, by rw [← b2, ← a2, e]⟩
    rw [e] at a1
    rw [← a2, e] at b1
    exact ⟨b1, ((hacc s v).1 hm).1, a1⟩
  · rintro ⟨a1, a2, a3⟩
    obtain ⟨p, hp, e⟩ := labF_mem.1 ((hacc s v).2 ⟨a2, hL s⟩)
    obtain ⟨j, hj, e2⟩ := h2 p hp (by rw [e]; exact a1)
    obtain ⟨q, hq, e3⟩ := h4 j hj (by rw [e2, e]; exact a3)
    exact ⟨q, hq, by rw [e3, e2, e]⟩

set_option maxRecDepth 10000 in
set_option maxHeartbeats 4000000 in
theorem eql_any {w : World} {po : Option Addr} {n cap : Nat} {M : Nat → Mtc} (h : Mat w po n M) (hn : n ≤ 1048576) :
    Calls Try.prog 27 #[.slice po n cap] w fun e w' => ∃ so' n' cap' r', e = .returned (.slice so' n' cap') ∧ Hid (EqR M n w w' so' n' r') := by
  have H : Hid (Mat w po n M) := h
  clear h
  have hmm := @run_makeMap Try.prog
  go_enter Try.func27, Try.ntmps27
  go_wp2_with fail
  go_loopw [4, 15] (fun x y wr => ∃ (i m cc : Nat) (co : Option Addr), i ≤ n ∧ m ≤ i ∧ x = .slice co m cc ∧ y = .int .i64 i ∧ Hid (∃ cl, S1 M w wr i co m cc cl)) (fun _ y _ => n - (intOf y).toNat)
  case atStart => exact ⟨0, 0, 0, none, Nat.zero_le _, Nat.le_refl _, rfl, rfl, [], OwnM.made w, World.ownsRow_nil _ _ _ _, fun s => by simp [Clash], (Below.refl _ _).alloc (Nat.le_refl _) _⟩
  case round =>
    obtain ⟨i, m, cc, co, hi, hmi, rfl, rfl, cl, hS⟩ := hrel
    have HS : Hid (S1 M w wr i co m cc cl) := hS
    clear hS
    by_cases hlt : i < n
    · obtain ⟨P, q, rfl, hP, hq, dP, d0, d1, d2, z1, z2⟩ := H.out i hlt
      have hlt' : (i : Int) < n := by omega
      obtain ⟨t, ht⟩ : ∃ t, (M i).ty = t := ⟨_, rfl⟩
      obtain ⟨s, hs⟩ : ∃ s, (M i).nm = s := ⟨_, rfl⟩
      obtain ⟨v, hv⟩ : ∃ v, (M i).vl = v := ⟨_, rfl⟩
      rw [ht] at d0
      rw [hs] at d1 z1
      rw [hv] at d2 z2
      have HM : Hid ((M i).ty = t ∧ (M i).nm = s ∧ (M i).vl = v) := ⟨ht, hs, hv⟩
      have HD : Hid (∀ w' : World, Below w.heap.size w w' → w'.cell? ⟨P, i, none⟩ = some (.pointer (some ⟨q, 0, none⟩)) ∧ w'.cell? ⟨q, 0, none⟩ = some (.int .i64 t) ∧ w'.cell? ⟨q, 1, none⟩ = some (.string s) ∧ w'.cell? ⟨q, 2, none⟩ = some (.string v)) :=
        fun w' hb => ⟨(hb.cell (p := ⟨P, _, none⟩) hP).trans dP, (hb.cell (p := ⟨q, _, none⟩) hq).trans d0, (hb.cell (p := ⟨q, _, none⟩) hq).trans d1, (hb.cell (p := ⟨q, _, none⟩) hq).trans d2⟩
      clear ht hs hv dP d0 d1 d2
      obtain ⟨cP, c0, c1, c2⟩ := HD.out wr HS.out.bel
      by_cases ht : t = 0
      · subst ht
        cases hN : (s.toList == [95, 95, 110, 97, 109, 101, 95, 95])
        · have he : Hid ((M i).eq = true) := by show (M i).eq = true; unfold Mtc.eq; rw [HM.out.1, HM.out.2.1, bName_list, hN]; rfl
          obtain ⟨V, hV⟩ : ∃ V, Vf M i s = V := ⟨_, rfl⟩
          have hlook := HS.out.own.look z1
          rw [hV] at hlook
          have HV : Hid (Vf M i s = V) := hV
          clear hV
          cases V with
          | none =>
            obtain ⟨w2, hst, ho2, hg2, _⟩ := OwnM.store (w := wr.drew) (HS.out.own.of_block rfl) (by unfold maxLen; omega) z1 z2
            have HO : Hid (S1 M w w2 (i + 1) co m cc cl) := by
              refine HS.out.more he.out ?_ ?_ ⟨hg2.os, hg2.tape, hg2.output, hg2.size, hg2.block⟩
              · rw [HM.out.2.1, HV.out]; rintro ⟨v, hv, _⟩; cases hv
              · rw [HM.out.2.1, HM.out.2.2]; exact ho2
            clear ho2 hg2
            go_upto_region 10 with fail
            go_region
            go_wp2_with fail
            go_roundw
            case rel => exact ⟨i + 1, m, cc, co, by omega, by omega, rfl, by go_num, cl, HO.out⟩
            case measure => simp [intOf]; omega
          | some u =>
            cases huv : (u.toList == v.toList)
            · obtain ⟨g, cap', w1, hap, ho1, hr1, hb1⟩ := HS.out.app (by omega) s 69
              obtain ⟨w2, hst, ho2, hg2, _⟩ := OwnM.store (w := w1.drew) (ho1.of_block rfl) (by unfold maxLen; omega) z1 z2
              obtain ⟨_, _, e1, e2⟩ := HD.out w1 hb1
              have HO : Hid (S1 M w w2 (i + 1) (some ⟨g, 0, none⟩) (m + 1) cap' (cl ++ [s])) := by
                have := HS.out.clash (w1 := w1) (w2 := w2) (g := g) (cap' := cap') (u := u) he.out (by rw [HM.out.2.1, HV.out]) ?_ ?_ hb1 ?_ ⟨hg2.os, hg2.tape, hg2.output, hg2.size, hg2.block⟩
                · rw [HM.out.2.1] at this; exact this
                · rw [HM.out.2.2]; intro e; subst e; simp at huv
                · rw [HM.out.2.1]; exact hr1
                · rw [HM.out.2.1, HM.out.2.2]; exact ho2
              clear ho2 hg2 ho1 hr1 hb1
              go_upto_region 10 with (at_builtin; refine Lib.wpList_append_run _ rfl _ _ _ _ rfl _ _ rfl rfl _ _ hap ?_)
              go_region
              go_wp2_with fail
              go_roundw
              case rel => exact ⟨i + 1, m + 1, cap', _, by omega, by omega, rfl, by go_num, _, HO.out⟩
              case measure => simp [intOf]; omega
            · obtain ⟨w2, hst, ho2, hg2, _⟩ := OwnM.store (w := wr.drew) (HS.out.own.of_block rfl) (by unfold maxLen; omega) z1 z2
              have HO : Hid (S1 M w w2 (i + 1) co m cc cl) := by
                refine HS.out.more he.out ?_ ?_ ⟨hg2.os, hg2.tape, hg2.output, hg2.size, hg2.block⟩
                · rw [HM.out.2.1, HV.out, HM.out.2.2]; rintro ⟨v', hv, hne⟩; cases hv; exact hne (toList_inj (by simpa using huv))
                · rw [HM.out.2.1, HM.out.2.2]; exact ho2
              clear ho2 hg2
              go_upto_region 10 with fail
              go_region
              go_wp2_with fail
              go_roundw
              case rel => exact ⟨i + 1, m, cc, co, by omega, by omega, rfl, by go_num, cl, HO.out⟩
              case measure => simp [intOf]; omega
        · have he : Hid ((M i).eq = false) := by show (M i).eq = false; unfold Mtc.eq; rw [HM.out.2.1, bName_list, hN]; simp
          go_wp2_with fail
          go_roundw
          case rel => exact ⟨i + 1, m, cc, co, by omega, by omega, rfl, by go_num, cl, HS.out.skip he.out⟩
          case measure => simp [intOf]; omega
      · have he : Hid ((M i).eq = false) := by show (M i).eq = false; unfold Mtc.eq; rw [HM.out.1]; simp [ht]
        have ht' : (t == 0) = false := by simpa using ht
        go_wp2_with fail
        go_roundw
        case rel => exact ⟨i + 1, m, cc, co, by omega, by omega, rfl, by go_num, cl, HS.out.skip he.out⟩
        case measure => simp [intOf]; omega
    · obtain rfl : i = n := by omega
      have hge : ¬ (i : Int) < i := by omega
      generalize wr = W0 at *
      have HN : Hid (Nm W0 co m (fun i => cl.getD i ByteArray.empty) ∧ m = cl.length) := by
        obtain ⟨a1, a2, a3⟩ := StrIn.of_owns HS.out.row
        exact ⟨⟨a1, a2⟩, a3⟩
      go_wp2_with (at_range; refine wpList_range_M _ rfl _ rfl w.heap.size i _ rfl HS.out.own ?_; intro w0 cnt0 hrg0 hcnt0 hg0 hs0; have HR : Hid (S2 M i w.heap.size W0 w0 none 0 0 [] (fun s => (Vf M i s).isSome) cnt0) := ⟨hrg0, World.ownsRow_nil _ _ _ _, (fun s v => by cases Vf M i s <;> simp), List.Pairwise.nil, by omega, (fun _ => ⟨rfl, rfl⟩), (Below.refl _ _).grown hg0 (Nat.le_refl _) (fun j hj => by cases hj), HS.out.own.lt⟩; clear hrg0 hcnt0 hg0 hs0)
      go_loopw [9] (fun x wr => ∃ (k lc : Nat) (lo : Option Addr), x = .slice lo k lc ∧ Hid (∃ acc L cnt, S2 M i w.heap.size W0 wr lo k lc acc L cnt)) (fun _ wr => wr.rangeLeft w.heap.size W0.heap.size)
      case atStart => exact ⟨0, 0, none, rfl, _, _, _, HR.out⟩
      case round =>
        clear HR
        obtain ⟨k, lc, lo, rfl, acc, L, cnt, hS2⟩ := hrel
        have HT : Hid (S2 M i w.heap.size W0 wr lo k lc acc L cnt) := hS2
        clear hS2
        go_wp2_with (at_next; refine wpList_next_M _ rfl _ rfl w.heap.size W0.heap.size i _ L cnt rfl HT.out.rng ?_ ?_)
        · intro hL
          have HL : Hid (∀ s, L s = false) := hL
          clear hL
          have hki : k ≤ i := by have := HT.out.cnt; omega
          by_cases hk : k = 0
          · subst hk
            obtain ⟨rfl, rfl⟩ := HT.out.nil rfl
            go_wp2_with fail
            refine (new_nil _).mono ?_
            rintro e w1 ⟨rfl, hb1⟩
            have HB : Hid (Nm w1 co m (fun i => cl.getD i ByteArray.empty) ∧ Below w.heap.size w w1) := by
              have hb2 := HT.out.bel.trans (hb1.mono HT.out.bel.size)
              refine ⟨⟨fun i hi => ?_, fun C e => ?_⟩, HS.out.bel.trans (hb2.mono HS.out.bel.size)⟩
              · obtain ⟨C, e, c⟩ := HN.out.1.row i hi
                exact ⟨C, e, (hb2.cell (p := ⟨C, i, none⟩) (HN.out.1.lt C e)).trans c⟩
              · have := HN.out.1.lt C e; have := hb2.size; omega
            clear hb1
            go_wp2_with fail
            refine (without_nil HB.out.1 (by omega)).mono ?_
            rintro e w2 ⟨rfl, hb2⟩
            have HE : Hid (EqR M i w w2 none 0 (fun _ => (ByteArray.empty, ByteArray.empty))) := by
              refine ⟨Nat.zero_le _, fun i hi => by omega, SP.Sorted.of_le_one _ (by omega), HB.out.2.trans (hb2.mono HB.out.2.size), ?_⟩
              have hk := HT.out.distinct.1
              refine eq_members (r := fun _ => (ByteArray.empty, ByteArray.empty)) (m' := 0) HS.out.mem HT.out.mem HL.out (fun j hj => by omega) (fun q hq => by omega) (fun j hj => by omega) (fun j hj => by omega)
            clear hb2
            go_wp2
            go_ret
            exact ⟨_, _, _, _, rfl, HE⟩
          · obtain ⟨g, cap1, hv, -, -, -, hrow⟩ := Row.of_owns HT.out.row (by omega)
            injection hv with hv1 hv2 hv3
            subst hv1
            clear hv2 hv3
            have HD : Hid (Row wr g k (labF acc) ∧ SP.Dist ltN k (labF acc) ∧ Hid (k = acc.length)) := ⟨hrow, HT.out.distinct.2, HT.out.distinct.1⟩
            have hk1 : 1 ≤ k := by omega
            have hk2 : k ≤ 1048576 := by omega
            clear hrow
            go_wp2_with fail

            refine (new_any HD.out.1 HD.out.2.1 hk1 hk2).mono ?_
            rintro e w1 ⟨cap2, m2, r2, rfl, hm2, hc2, hR2⟩
            have HB : Hid (Nm w1 co m (fun i => cl.getD i ByteArray.empty) ∧ Below w.heap.size w w1) := by
              have hb2 := HT.out.bel.trans (hR2.out.2.2.1.mono HT.out.bel.size)
              refine ⟨⟨fun i hi => ?_, fun C e => ?_⟩, HS.out.bel.trans (hb2.mono HS.out.bel.size)⟩
              · obtain ⟨C, e, c⟩ := HN.out.1.row i hi
                exact ⟨C, e, (hb2.cell (p := ⟨C, i, none⟩) (HN.out.1.lt C e)).trans c⟩
              · have := HN.out.1.lt C e; have := hb2.size; omega
            by_cases hz : m2 = 0
            · subst hz
              go_wp2_with fail
              refine (without_nil HB.out.1 (by omega)).mono ?_
              rintro e w2 ⟨rfl, hb2⟩
              have HE : Hid (EqR M i w w2 (some ⟨wr.heap.size, 0, none⟩) 0 r2) := by
                refine ⟨Nat.zero_le _, fun i hi => by omega, SP.Sorted.of_le_one _ (by omega), HB.out.2.trans (hb2.mono HB.out.2.size), ?_⟩
                obtain ⟨_, _, _, a1, a2⟩ := hR2.out
                have hkl := HD.out.2.2.out
                rw [hkl] at a1 a2
                refine eq_members (r := r2) (m' := 0) HS.out.mem HT.out.mem HL.out a1 a2 (fun j hj => by omega) (fun j hj => by omega)
              clear hb2
              go_wp2
              go_ret
              exact ⟨_, _, _, _, rfl, HE⟩
            · go_wp2_with fail
              refine (without_any HB.out.1 (by omega) (by omega) (by omega) hc2 hR2.out.1 hR2.out.2.1).mono ?_
              rintro e w2 ⟨so', n', cap', r', rfl, hF⟩
              have HE : Hid (EqR M i w w2 so' n' r') := by
                obtain ⟨f1, f2, f3, f4, f5, f6⟩ := hF.out
                refine ⟨by omega, f2, f3, HB.out.2.trans (f4.mono HB.out.2.size), ?_⟩
                obtain ⟨_, _, _, a1, a2⟩ := hR2.out
                have hkl := HD.out.2.2.out
                rw [hkl] at a1 a2
                rw [HN.out.2] at f5 f6
                exact eq_members (r := r2) (m' := m2) HS.out.mem HT.out.mem HL.out a1 a2 f5 f6
              clear hF
              go_wp2
              go_ret
              exact ⟨_, _, _, _, rfl, HE⟩
        · intro s v w1 cnt1 hLs hVs _ _ hrg1 hlt1 hg1 hs1 hen
          obtain ⟨g, cap', w2, hap, hS3⟩ := HT.out.app hn hLs hVs hrg1 hlt1 hg1 25
          have HU : Hid (S2 M i w.heap.size W0 w2 (some ⟨g, 0, none⟩) (k + 1) cap' (acc ++ [(s, v)]) (fun t => L t && !decide (t = s)) cnt1) := hS3
          clear hS3 hrg1 hg1 hs1 hLs hVs
          go_wp2_with (at_builtin; refine Lib.wpList_append_run _ rfl _ _ _ _ rfl _ _ rfl rfl _ _ hap ?_)
          go_roundw
          case rel => exact ⟨_, _, _, rfl, _, _, _, HU.out⟩
          case measure => rw [HU.out.rng.left_eq, HT.out.rng.left_eq]; exact hlt1
end Go.Proofs.Qxb6615577a
