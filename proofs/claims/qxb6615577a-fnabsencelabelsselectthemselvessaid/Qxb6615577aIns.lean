/- insertSorted (26). -/
import Derived.Test.Qxb6615577aBs
namespace Go.Proofs.Qxb6615577a
open Go.RowKit

theorem Try.info58 : (Try.prog.info? 58).map (fun i => (i.zero, i.size, i.bytes)) = some (some (.agg #[.string ByteArray.empty, .string ByteArray.empty]), 2, 32) := by kernel_rfl

/-- Block g is a row of type 58 with room for sc, whose first n elements are r. -/
def Row8 (w : World) (g n sc : Nat) (r : Nat → Lab) : Prop := ∃ cur : Array Value, w.heap[g]? = some (.cells cur 58 (0, 0)) ∧ n ≤ sc ∧ sc ≤ maxLen ∧ cur.size = sc * 2 ∧ ∀ i, i < n → cur[i * 2]? = some (.string (r i).1) ∧ cur[i * 2 + 1]? = some (.string (r i).2)
/-- .. behind a slice value; or nil. -/
def Own8 (w : World) (base : Nat) (so : Option Addr) (n sc : Nat) (r : Nat → Lab) : Prop := (so = none ∧ n = 0 ∧ sc = 0) ∨ ∃ g, so = some ⟨g, 0, none⟩ ∧ base ≤ g ∧ Row8 w g n sc r

namespace Row8
variable {w w' : World} {g n sc : Nat} {r : Nat → Lab}
theorem of_block (h : Row8 w g n sc r) (e : w'.heap[g]? = w.heap[g]?) : Row8 w' g n sc r := by
  obtain ⟨c, hc, h⟩ := h
  exact ⟨c, e.trans hc, h⟩
theorem lt (h : Row8 w g n sc r) : g < w.heap.size := by
  obtain ⟨c, hc, _⟩ := h
  exact (Array.getElem?_eq_some_iff.1 hc).1
theorem cell0 (h : Row8 w g n sc r) {i : Nat} (hi : i < n) : w.cell? ⟨g, i * 2, none⟩ = some (.string (r i).1) := by
  obtain ⟨c, hc, _, _, _, h⟩ := h
  simpa [World.cell?, hc] using (h i hi).1
theorem cell1 (h : Row8 w g n sc r) {i : Nat} (hi : i < n) : w.cell? ⟨g, i * 2 + 1, none⟩ = some (.string (r i).2) := by
  obtain ⟨c, hc, _, _, _, h⟩ := h
  simpa [World.cell?, hc] using (h i hi).2
theorem frozen (h : Row8 w g n sc r) (i : Nat) : w.frozen? ⟨g, i, none⟩ = false := by
  obtain ⟨c, hc, _⟩ := h
  simp [World.frozen?, hc]
theorem put (h : Row8 w g n sc r) {i : Nat} (hi : i < n) (x : Lab) : Row8 ((w.setCell ⟨g, i * 2, none⟩ (.string x.1)).setCell ⟨g, i * 2 + 1, none⟩ (.string x.2)) g n sc (fun k => if k = i then x else r k) := by
  obtain ⟨c, hc, hn, hm, hz, hs⟩ := h
  refine ⟨(c.setIfInBounds (i * 2) (.string x.1)).setIfInBounds (i * 2 + 1) (.string x.2), ?_, hn, hm, by simpa using hz, fun k hk => ?_⟩
  · simp [World.setCell, Array.getElem?_modify, hc]
  · by_cases e : k = i
    · subst e
      refine ⟨?_, ?_⟩
      · rw [Array.getElem?_setIfInBounds_ne (by omega), Array.getElem?_setIfInBounds_self_of_lt (by omega)]; simp
      · rw [Array.getElem?_setIfInBounds_self_of_lt (by simp; omega)]; simp
    · refine ⟨?_, ?_⟩
      · rw [Array.getElem?_setIfInBounds_ne (by omega), Array.getElem?_setIfInBounds_ne (by omega)]; simp only [if_neg e]; exact (hs k hk).1
      · rw [Array.getElem?_setIfInBounds_ne (by omega), Array.getElem?_setIfInBounds_ne (by omega)]; simp only [if_neg e]; exact (hs k hk).2
end Row8

theorem Own8.kept {w w' : World} {base n sc : Nat} {so : Option Addr} {r : Nat → Lab} (h : Own8 w base so n sc r) (hb : Below w.heap.size w w') : Own8 w' base so n sc r := by
  rcases h with h | ⟨g, h1, h2, h3⟩
  · exact Or.inl h
  · exact Or.inr ⟨g, h1, h2, h3.of_block (hb.block g h3.lt)⟩

/-- 'out = append(out, l)'. -/
theorem Own8.app {w : World} {base n sc : Nat} {so : Option Addr} {r : Nat → Lab} (h : Own8 w base so n sc r) (hb : base ≤ w.heap.size) (hn : n ≤ 1048576) (x : Lab) (ty : TypeId) {b : Nat} (x0 : w.cell? ⟨b, 0, none⟩ = some (.string x.1)) (x1 : w.cell? ⟨b, 1, none⟩ = some (.string x.2)) :
    ∃ g cap' w1, (Builtin.append_ #[22, 22] ty #[.slice so n sc, .slice (some ⟨b, 0, none⟩) 1 1]).run Try.prog w = .ok (.slice (some ⟨g, 0, none⟩) (n + 1) cap') w1 ∧ base ≤ g ∧ (so = some ⟨g, 0, none⟩ ∨ g = w.heap.size) ∧ Row8 w1 g (n + 1) cap' (fun i => if i = n then x else r i) ∧
      w.grownBy w1 (Value.slice so n sc).ownBlock := by
  obtain ⟨i0, hi0, hz0, hz1, hz2⟩ := info_parts Try.info58
  have hrow : ∃ xs, w.ownsRow base 58 2 (.slice so n sc) n xs ∧ ∀ i, i < n → xs[i * 2]? = some (.string (r i).1) ∧ xs[i * 2 + 1]? = some (.string (r i).2) := by
    rcases h with ⟨rfl, rfl, rfl⟩ | ⟨g, rfl, h2, c, hc, h3, h4, h5, h6⟩
    · exact ⟨[], ⟨rfl, Or.inl ⟨rfl, rfl⟩⟩, fun i hi => by omega⟩
    · refine ⟨c.toList.take (n * 2), ⟨by simp; omega, Or.inr ⟨g, sc, c, rfl, h2, hc, h3, h4, h5, rfl⟩⟩, fun i hi => ?_⟩
      rw [List.getElem?_take, if_pos (by omega), List.getElem?_take, if_pos (by omega), Array.getElem?_toList, Array.getElem?_toList]
      exact h6 i hi
  obtain ⟨xs, hown, hxs⟩ := hrow
  obtain ⟨g, cap', w1, hr, h2, h3, h4, _⟩ := run_append_lies (P := Try.prog) w 22 ty base 58 i0 _ 2 32 Try.underlying22 hi0 hz0 hz1 hz2 rfl (by omega) _ n _ hown
    ⟨b, 0, none⟩ 1 1 [.string x.1, .string x.2] rfl (fun j u hu => by
      match j, hu with
      | 0, hu => simp at hu; subst hu; simpa [Addr.add] using x0
      | 1, hu => simp at hu; subst hu; simpa [Addr.add] using x1) (by intro u hu; simp at hu; rcases hu with rfl | rfl <;> rfl) (by omega) (by unfold maxLen; omega) (by omega) hb _ rfl
  obtain ⟨hl, h5 | ⟨g', cap2, cur, hv, k1, k2, k3, k4, k5, k6⟩⟩ := h2
  · exact absurd h5.2 (by omega)
  injection hv with e1 e2 e3
  injection e1 with e1
  injection e1 with e1
  subst e1 e3
  refine ⟨g, cap', w1, hr, k1, ?_, ⟨cur, k2, k3, k4, k5, fun i hi => ?_⟩, h3⟩
  · rcases h4 with h4 | h4
    · rcases h with ⟨rfl, rfl, rfl⟩ | ⟨g2, rfl, _⟩
      · cases h4
      · cases h4; exact Or.inl rfl
    · exact Or.inr h4
  · have hxl : xs.length = n * 2 := hown.1
    have e1 : ∀ q, q < (n + 1) * 2 → cur[q]? = (xs ++ [.string x.1, .string x.2])[q]? := fun q hq => by rw [← k6, List.getElem?_take, if_pos hq, Array.getElem?_toList]
    rw [e1 _ (by omega), e1 _ (by omega)]
    by_cases e : i = n
    · subst e
      rw [List.getElem?_append_right (by omega), List.getElem?_append_right (by omega), hxl, Nat.sub_self, show i * 2 + 1 - i * 2 = 1 by omega]
      simp
    · rw [List.getElem?_append_left (by omega), List.getElem?_append_left (by omega)]
      simp only [if_neg e]
      exact hxs i (by omega)

/-- The hole has come down to k. -/
structure Hole (n k : Nat) (r : Nat → Lab) (l : Lab) (d : Nat → Lab) : Prop where
  lo : ∀ j, j < k → d j = r j
  hi : ∀ j, k < j → j ≤ n → d j = r (j - 1) ∧ ltN l (r (j - 1)) = true

theorem Hole.down {n k : Nat} {r d : Nat → Lab} {l : Lab} (h : Hole n (k + 1) r l d) (hl : ltN l (r k) = true) : Hole n k r l (fun j => if j = k + 1 then r k else d j) := by
  refine ⟨fun j hj => by simp only [if_neg (show ¬ j = k + 1 by omega)]; exact h.lo j (by omega), fun j h1 h2 => ?_⟩
  by_cases e : j = k + 1
  · subst e; simpa using hl
  · simp only [if_neg e]; exact h.hi j (by omega) h2

theorem Hole.fill {n k : Nat} {r d : Nat → Lab} {l : Lab} (h : Hole n k r l d) (hk : k ≤ n) (hs : SP.Sorted ltN 0 n r) (hlo : ∀ j, j < k → ltN (r j) l = true) :
    SP.Sorted ltN 0 (n + 1) (fun j => if j = k then l else d j) ∧ (∀ j, j < n + 1 → (fun j => if j = k then l else d j) j = l ∨ ∃ q, q < n ∧ (fun j => if j = k then l else d j) j = r q) ∧ (∃ j, j < n + 1 ∧ (fun j => if j = k then l else d j) j = l) ∧ ∀ q, q < n → ∃ j, j < n + 1 ∧ (fun j => if j = k then l else d j) j = r q := by
  refine ⟨fun p q _ h2 h3 => ?_, fun j hj => ?_, ⟨k, by omega, by simp⟩, fun q hq => ?_⟩
  · by_cases e1 : p = k
    · subst e1
      simp only [if_true, if_neg (show ¬ q = p by omega)]
      rw [(h.hi q h2 (by omega)).1]; exact (h.hi q h2 (by omega)).2
    · by_cases e2 : q = k
      · subst e2
        simp only [if_true, if_neg e1]
        rw [h.lo p h2]; exact hlo p h2
      · simp only [if_neg e1, if_neg e2]
        by_cases c1 : p < k
        · rw [h.lo p c1]
          by_cases c2 : q < k
          · rw [h.lo q c2]; exact hs p q (Nat.zero_le _) h2 (by omega)
          · rw [(h.hi q (by omega) (by omega)).1]; exact hs p (q - 1) (Nat.zero_le _) (by omega) (by omega)
        · rw [(h.hi p (by omega) (by omega)).1, (h.hi q (by omega) (by omega)).1]; exact hs (p - 1) (q - 1) (Nat.zero_le _) (by omega) (by omega)
  · by_cases e : j = k
    · exact Or.inl (by simp [e])
    · right
      simp only [if_neg e]
      by_cases c : j < k
      · exact ⟨j, by omega, h.lo j c⟩
      · exact ⟨j - 1, by omega, (h.hi j (by omega) (by omega)).1⟩
  · by_cases c : q < k
    · exact ⟨q, by omega, by simp only [if_neg (show ¬ q = k by omega)]; exact h.lo q c⟩
    · exact ⟨q + 1, by omega, by simp only [if_neg (show ¬ q + 1 = k by omega)]; exact (h.hi (q + 1) (by omega) (by omega)).1⟩

/-- What insertSorted hands back. -/
def InsR (w w' : World) (base g n cap : Nat) (r : Nat → Lab) (l : Lab) (r' : Nat → Lab) : Prop :=
  base ≤ g ∧ Row8 w' g (n + 1) cap r' ∧ SP.Sorted ltN 0 (n + 1) r' ∧ Below base w w' ∧ (∀ j, j < n + 1 → r' j = l ∨ ∃ q, q < n ∧ r' j = r q) ∧ (∃ j, j < n + 1 ∧ r' j = l) ∧ ∀ q, q < n → ∃ j, j < n + 1 ∧ r' j = r q

set_option maxRecDepth 10000 in
set_option maxHeartbeats 4000000 in
theorem ins_any {w : World} {base n sc : Nat} {so : Option Addr} {r : Nat → Lab} (l : Lab) (h : Own8 w base so n sc r) (hb : base ≤ w.heap.size) (hn : n ≤ 1048575) (hs : SP.Sorted ltN 0 n r) (hd : ∀ j, j < n → (r j).1 ≠ l.1) :
    Calls Try.prog 26 #[.slice so n sc, .agg #[.string l.1, .string l.2]] w fun e w' => ∃ g cap r', e = .returned (.slice (some ⟨g, 0, none⟩) (n + 1) cap) ∧ Hid (InsR w w' base g n cap r l r') := by
  have HS : Hid (SP.Sorted ltN 0 n r ∧ ∀ j, j < n → (r j).1 ≠ l.1) := ⟨hs, hd⟩
  obtain ⟨g, cap', w3, hap, hbg, hg, hrow, hgr⟩ := Own8.app (w := (w.alloc (.cells #[.string l.1, .string l.2] 58)).alloc (.cells #[.string l.1, .string l.2] 58)) (b := w.heap.size + 1) (h.kept (((Below.refl _ _).alloc (Nat.le_refl _) _).alloc (by simp) _)) (by simp; omega) (by omega) l 22 (by simp) (by simp)
  have hgB : w.heap.size < g ∨ g < w.heap.size := by
    rcases hg with hg | hg
    · rcases h with ⟨h1, _⟩ | ⟨g2, h1, _, h2⟩
      · rw [h1] at hg; cases hg
      · rw [h1] at hg; cases hg; exact Or.inr h2.lt
    · left; rw [hg]; simp; omega
  have hne : ∀ b, (Value.slice so n sc).ownBlock = some b → base ≤ b ∧ b < w.heap.size := by
    intro b e
    rcases h with ⟨h1, _⟩ | ⟨g2, h1, h2, h3⟩
    · rw [h1] at e; cases e
    · rw [h1] at e; cases e; exact ⟨h2, h3.lt⟩
  have H3 : Hid (Row8 w3 g (n + 1) cap' (fun i => if i = n then l else r i) ∧ Below base w w3 ∧ w3.cell? ⟨w.heap.size, 0, none⟩ = some (.string l.1) ∧ w3.cell? ⟨w.heap.size, 1, none⟩ = some (.string l.2) ∧ w.heap.size < w3.heap.size) := by
    have hblk : w3.heap[w.heap.size]? = ((w.alloc (.cells #[.string l.1, .string l.2] 58)).alloc (.cells #[.string l.1, .string l.2] 58)).heap[w.heap.size]? := hgr.block _ (by simp; omega) (fun e => by have := (hne _ e.symm).2; omega)
    refine ⟨hrow, (((Below.refl _ _).alloc hb _).alloc (by simp; omega) _).grown hgr (by simp; omega) (fun j hj => (hne _ hj).1), ?_, ?_, by have := hgr.size; simp at this; omega⟩
    · rw [World.cell?_of_block (a := ⟨w.heap.size, 0, none⟩) hblk]; simp
    · rw [World.cell?_of_block (a := ⟨w.heap.size, 1, none⟩) hblk]; simp
  clear h hs hd hrow hgr hne hg
  go_enter Try.func26, Try.ntmps26
  go_wp2_with (at_builtin; refine Lib.wpList_append_run _ rfl _ _ _ _ rfl _ _ rfl rfl _ _ hap ?_)
  go_loopw [5] (fun y wr => ∃ k : Nat, k ≤ n ∧ y = .int .i64 k ∧ Hid (∃ d, Row8 wr g (n + 1) cap' d ∧ Hole n k r l d ∧ Oth g w3 wr)) (fun y _ => (intOf y).toNat)
  case atStart => exact ⟨n, Nat.le_refl _, by go_num, _, H3.out.1, ⟨fun j hj => by simp only [if_neg (show ¬ j = n by omega)], fun j h1 h2 => by omega⟩, Oth.refl _ _⟩
  case round =>
    obtain ⟨k, hk, rfl, d, drow, dhole, doth⟩ := hrel
    have HD : Hid (Row8 wr g (n + 1) cap' d ∧ Hole n k r l d ∧ Oth g w3 wr) := ⟨drow, dhole, doth⟩
    clear drow dhole doth
    have l0 : wr.cell? ⟨w.heap.size, 0, none⟩ = some (.string l.1) := by rw [HD.out.2.2.cell H3.out.2.2.2.2 (by omega)]; exact H3.out.2.2.1
    have l1 : wr.cell? ⟨w.heap.size, 1, none⟩ = some (.string l.2) := by rw [HD.out.2.2.cell H3.out.2.2.2.2 (by omega)]; exact H3.out.2.2.2.1
    have HF : Hid ((∀ j, j < k → ltN (r j) l = true) → ∀ m, InsR w (((wr.drewN m).setCell ⟨g, k * 2, none⟩ (.string l.1)).setCell ⟨g, k * 2 + 1, none⟩ (.string l.2)) base g n cap' r l (fun j => if j = k then l else d j)) := by
      intro hlo m
      obtain ⟨f1, f2, f3, f4⟩ := HD.out.2.1.fill hk HS.out.1 hlo
      have ho : Oth g w3 (((wr.drewN m).setCell ⟨g, k * 2, none⟩ (.string l.1)).setCell ⟨g, k * 2 + 1, none⟩ (.string l.2)) := ((HD.out.2.2.drewN m).set _ _).set _ _
      refine ⟨hbg, (HD.out.1.of_block rfl).put (by omega) l, f1, H3.out.2.1.trans ⟨ho.os, ho.tape, ho.output, ho.size, fun q hq => ho.block q (by have := H3.out.2.2.2.2; omega) (by omega)⟩, f2, f3, f4⟩
    have e0 := HD.out.1.cell0 (i := k) (by omega)
    have e1 := HD.out.1.cell1 (i := k) (by omega)
    have z0 := HD.out.1.frozen (k * 2)
    have z1 := HD.out.1.frozen (k * 2 + 1)
    by_cases hz : k = 0
    · subst hz
      have q : decide ((0 : Int) < 0) = false := by simp
      have HG : Hid (∀ m, InsR w (((wr.drewN m).setCell ⟨g, 0, none⟩ (.string l.1)).setCell ⟨g, 1, none⟩ (.string l.2)) base g n cap' r l (fun j => if j = 0 then l else d j)) := fun m => by simpa using HF.out (fun j hj => by omega) m
      simp only [Nat.zero_mul, Nat.zero_add] at e0 e1 z0 z1
      clear HF
      go_wp2_with fail
      go_quiet (fail)
      go_wp2
      go_ret
      exact ⟨_, _, _, rfl, HG.out _⟩
    · obtain ⟨j, rfl⟩ : ∃ j, k = j + 1 := ⟨k - 1, by omega⟩
      have c0 := HD.out.1.cell0 (i := j) (by omega)
      have c1 := HD.out.1.cell1 (i := j) (by omega)
      rw [HD.out.2.1.lo j (by omega)] at c0 c1
      have q : decide ((0 : Int) < ((j + 1 : Nat) : Int)) = true := by simp
      have q2 : ((j : Int)) < ((n + 1 : Nat) : Int) := by omega
      have q3 : ((j + 1 : Nat) : Int) < ((n + 1 : Nat) : Int) := by omega
      have hne : ((r j).1.toList == l.1.toList) = false := by rw [toList_beq]; simpa using HS.out.2 j (by omega)
      cases hlt : Op.bytesLess (r j).1.toList l.1.toList
      · have HL : Hid (ltN l (r j) = true) := by
          rcases ltN_of_ne (HS.out.2 j (by omega)) with c | c
          · unfold ltN at c; rw [hlt] at c; cases c
          · exact c
        have HN : Hid (∀ m, ∃ d', Row8 (((wr.drewN m).setCell ⟨g, (j + 1) * 2, none⟩ (.string (r j).1)).setCell ⟨g, (j + 1) * 2 + 1, none⟩ (.string (r j).2)) g (n + 1) cap' d' ∧ Hole n j r l d' ∧ Oth g w3 (((wr.drewN m).setCell ⟨g, (j + 1) * 2, none⟩ (.string (r j).1)).setCell ⟨g, (j + 1) * 2 + 1, none⟩ (.string (r j).2))) := fun m =>
          ⟨_, (HD.out.1.of_block rfl).put (by omega) (r j), HD.out.2.1.down HL.out, ((HD.out.2.2.drewN m).set _ _).set _ _⟩
        clear HF
        go_wp2_with fail
        go_quiet (fail)
        go_wp2_with fail
        go_roundw
        case rel => exact ⟨j, by omega, by go_num, HN.out _⟩
        case measure => simp [intOf]
      · have HG : Hid (∀ m, InsR w (((wr.drewN m).setCell ⟨g, (j + 1) * 2, none⟩ (.string l.1)).setCell ⟨g, (j + 1) * 2 + 1, none⟩ (.string l.2)) base g n cap' r l (fun q => if q = j + 1 then l else d q)) := fun m => HF.out (fun p hp => by
          have hj : ltN (r j) l = true := hlt
          by_cases e : p = j
          · subst e; exact hj
          · exact bl_tr _ _ _ (HS.out.1 p j (Nat.zero_le _) (by omega) (by omega)) hj) m
        clear HF
        go_wp2_with fail
        go_quiet (fail)
        go_wp2
        go_ret
        exact ⟨_, _, _, rfl, HG.out _⟩
end Go.Proofs.Qxb6615577a
