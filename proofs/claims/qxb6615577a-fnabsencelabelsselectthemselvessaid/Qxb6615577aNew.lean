/- labels.New (28): the contract. -/
import Derived.Test.Qxb6615577aSortV
import Derived.Test.Qxb6615577aF4b
import Derived.Deep.AppendSrc
import Derived.Lib.AppendZeros
namespace Go.Proofs.Qxb6615577a
open Go.RowKit

theorem Row.news {w : World} {A n : Nat} {d : Nat → Lab} (h : Row w A n d) : ∃ news : List Value, news.length = n * 2 ∧ (∀ j u, news[j]? = some u → w.cell? ⟨A, j, none⟩ = some u) ∧ (∀ u ∈ news, u.oneCell' = true) ∧
    ∀ i, i < n → news[i * 2]? = some (.string (d i).1) ∧ news[i * 2 + 1]? = some (.string (d i).2) := by
  obtain ⟨c, hc, hn, hs⟩ := h
  have hj : ∀ j, j < n * 2 → ∃ s, c[j]? = some (.string s) := fun j hj => by
    have := hs (j / 2) (by omega)
    by_cases e : j % 2 = 0
    · exact ⟨_, by rw [← this.1]; congr 1; omega⟩
    · exact ⟨_, by rw [← this.2]; congr 1; omega⟩
  refine ⟨c.toList.take (n * 2), by simp; omega, fun j u hu => ?_, fun u hu => ?_, fun i hi => ?_⟩
  · rw [List.getElem?_take] at hu
    split at hu
    · simp only [Array.getElem?_toList] at hu
      simp [World.cell?, hc, hu]
    · cases hu
  · obtain ⟨j, hj1, rfl⟩ := List.mem_iff_getElem.1 hu
    have hl : j < n * 2 := by simp at hj1; omega
    obtain ⟨s, hs'⟩ := hj j hl
    have : (c.toList.take (n * 2))[j]? = some (.string s) := by rw [List.getElem?_take, if_pos hl, Array.getElem?_toList, hs']
    rw [List.getElem?_eq_getElem hj1] at this
    rw [Option.some.inj this]
    rfl
  · rw [List.getElem?_take, if_pos (by omega), List.getElem?_take, if_pos (by omega), Array.getElem?_toList, Array.getElem?_toList]
    exact hs i hi

theorem append_copy {w : World} {A n c : Nat} {d : Nat → Lab} (h : Row w A n d) (h1 : 1 ≤ n) (hn : n ≤ 1048576) (ty : TypeId) : ∃ cap w',
    (Builtin.append_ #[26, 25] ty #[.slice none 0 0, .slice (some ⟨A, 0, none⟩) n c]).run Try.prog w = .ok (.slice (some ⟨w.heap.size, 0, none⟩) n cap) w' ∧ n ≤ cap ∧ Row w' w.heap.size n d ∧ Below w.heap.size w w' := by
  obtain ⟨i0, hi0, hz0, hz1, hz2⟩ := info_parts Try.info31
  obtain ⟨news, hl, hc, ho, hd⟩ := h.news
  have hr := run_append_grow_src (P := Try.prog) (w := w) 26 25 ty 31 i0 _ Try.underlying26 hi0 hz0 none 0 0 [] (by simpa using run_firstCells_none w.drew i0.size 0 0 0) (.slice (some ⟨A, 0, none⟩) n c) n news
    (Src.ofSlice w (e' := 31) Try.underlying25 ⟨A, 0, none⟩ n c news (by rw [hz1]; exact hl) (fun j u hu => by rw [Addr.add_lit]; simpa using hc j u hu) ho) (by omega) (by omega) (growslice_fits (by omega) (by rw [hz2]; omega))
  have hge := grownCap_ge w (0 + n) 0 31
  rw [Nat.zero_add] at hr hge
  refine ⟨_, _, hr, hge, ?_, ?_⟩
  · refine ⟨_, heap_alloc_new w.drew _, ?_, fun i hi => ?_⟩
    · simp; omega
    · have := hd i hi
      simp only [List.nil_append]
      rw [Array.getElem?_append_left (by simp; omega), Array.getElem?_append_left (by simp; omega)]
      simpa using this
  · exact ((Below.refl _ _).drew).alloc (by simp) _

theorem sliceStable_any {w : World} {blk n cap S : Nat} {d : Nat → Lab} (hn : n ≤ 1048576) (h : St w blk n cap S d) (hD : SP.Dist ltN n d) :
    Calls Try.prog 30 #[.iface 26 (.slice (some ⟨blk, 0, none⟩) n cap), .func (.func 31) #[] #[.pointer (some ⟨S, 0, none⟩)]] w fun e w' => e = .returned (.tuple #[]) ∧ ∃ d', St w' blk n cap S d' ∧ SP.PermOn 0 n d d' ∧ SP.Sorted ltN 0 n d' ∧ Oth blk w w' := by
  by_cases h2 : 2 ≤ n
  · exact sliceStable_big h2 hn h hD
  · refine Calls.mono (sliceStable_tiny (by omega)) ?_
    rintro e w' ⟨he, ho⟩
    refine ⟨he, d, h.step (ho blk) (h.row.of_block ?_), SP.PermOn.refl _ _ _, SP.Sorted.of_le_one _ (by omega), ho blk⟩
    exact (ho (blk + 1)).block blk h.row.lt (by omega)

/-- Behind i rounds of New's loop: k of the first i are kept, in e's front. -/
structure Kept (i k : Nat) (g e : Nat → Lab) : Prop where
  le : k ≤ i
  rest : ∀ j, i ≤ j → e j = g j
  sorted : SP.Sorted ltN 0 k e
  of : ∀ j, j < k → (e j).2.toList ≠ [] ∧ ∃ q, q < i ∧ e j = g q
  all : ∀ q, q < i → (g q).2.toList ≠ [] → ∃ j, j < k ∧ e j = g q

theorem Kept.start (g : Nat → Lab) : Kept 0 0 g g := ⟨Nat.le_refl _, fun _ _ => rfl, SP.Sorted.of_le_one _ (by omega), fun _ h => by omega, fun _ h => by omega⟩
theorem Kept.skip {i k : Nat} {g e : Nat → Lab} (h : Kept i k g e) (he : (g i).2.toList = []) : Kept (i + 1) k g e :=
  ⟨by have := h.le; omega, fun j hj => h.rest j (by omega), h.sorted, fun j hj => ⟨(h.of j hj).1, by obtain ⟨q, hq, e⟩ := (h.of j hj).2; exact ⟨q, by omega, e⟩⟩,
    fun q hq hne => by
      by_cases c : q = i
      · subst c; exact absurd he hne
      · exact h.all q (by omega) hne⟩
theorem Kept.take {i k n : Nat} {g e : Nat → Lab} (h : Kept i k g e) (hg : SP.Sorted ltN 0 n g) (hi : i < n) (he : (g i).2.toList ≠ []) : Kept (i + 1) (k + 1) g (fun j => if j = k then g i else e j) := by
  have hle := h.le
  refine ⟨by omega, fun j hj => ?_, fun p q _ h2 h3 => ?_, fun j hj => ?_, fun q hq hne => ?_⟩
  · simp only [if_neg (show ¬ j = k by omega)]; exact h.rest j (by omega)
  · by_cases c : q = k
    · simp only [c, if_true, if_neg (show ¬ p = k by omega)]
      obtain ⟨r, hr, e2⟩ := (h.of p (by omega)).2
      rw [e2]
      exact hg r i (by omega) hr hi
    · simp only [if_neg c, if_neg (show ¬ p = k by omega)]
      exact h.sorted p q (by omega) h2 (by omega)
  · by_cases c : j = k
    · simp only [c, if_true]; exact ⟨he, i, by omega, rfl⟩
    · simp only [if_neg c]
      exact ⟨(h.of j (by omega)).1, by obtain ⟨q, hq, e⟩ := (h.of j (by omega)).2; exact ⟨q, by omega, e⟩⟩
  · by_cases c : q = i
    · subst c; exact ⟨k, by omega, by simp⟩
    · obtain ⟨j, hj, e2⟩ := h.all q (by omega) hne
      exact ⟨j, by omega, by simp only [if_neg (show ¬ j = k by omega)]; exact e2⟩

theorem new_two (w : World) (k : Nat) (a b : Value) (t : TypeId) : ((w.drewN k).alloc (.cells #[a, b] t)).cell? ⟨w.heap.size, 0, none⟩ = some a ∧ ((w.drewN k).alloc (.cells #[a, b] t)).cell? ⟨w.heap.size, 1, none⟩ = some b := by
  have h : w.heap.size = (w.drewN k).heap.size := rfl
  rw [h]
  generalize w.drewN k = W
  exact ⟨by simp, by simp⟩

theorem append_one {W : World} {B n cap k b : Nat} {x : Lab} {e : Nat → Lab} (h : Row W B n e) (hk : k < n) (hc : k + 1 ≤ cap) (h0 : W.cell? ⟨b, 0, none⟩ = some (.string x.1)) (h1 : W.cell? ⟨b, 1, none⟩ = some (.string x.2)) (ty : TypeId) :
    (Builtin.append_ #[26, 26] ty #[.slice (some ⟨B, 0, none⟩) k cap, .slice (some ⟨b, 0, none⟩) 1 1]).run Try.prog W = .ok (.slice (some ⟨B, 0, none⟩) (k + 1) cap) ((W.setCell ⟨B, k * 2, none⟩ (.string x.1)).setCell ⟨B, k * 2 + 1, none⟩ (.string x.2)) := by
  obtain ⟨i0, hi0, hz0, hz1, hz2⟩ := info_parts Try.info31
  have hr := run_append_room_src (P := Try.prog) (w := W) 26 26 ty 31 i0 Try.underlying26 hi0 B 0 k cap (.slice (some ⟨b, 0, none⟩) 1 1) 1 [.string x.1, .string x.2]
    (Src.ofSlice W (e' := 31) Try.underlying26 ⟨b, 0, none⟩ 1 1 _ (by rw [hz1]; rfl) (fun j u hu => by
      match j, hu with
      | 0, hu => simp at hu; subst hu; simpa [Addr.add] using h0
      | 1, hu => simp at hu; subst hu; simpa [Addr.add] using h1) (by intro u hu; simp at hu; rcases hu with rfl | rfl <;> rfl)) hc
    (fun j hj => by
      rw [hz1]
      match j, hj with
      | 0, _ => simp [h.cell0 hk]
      | 1, _ => simp [h.cell1 hk]) (fun j _ => h.frozen _)
  rw [hr, hz1]
  simp [World.setCells]

set_option maxRecDepth 10000 in
set_option maxHeartbeats 4000000 in
theorem new_any {w : World} {A n c : Nat} {d : Nat → Lab} (hr : Row w A n d) (hD : SP.Dist ltN n d) (h1 : 1 ≤ n) (hn : n ≤ 1048576) :
    Calls Try.prog 28 #[.slice (some ⟨A, 0, none⟩) n c] w fun e w' => ∃ cap m r, e = .returned (.slice (some ⟨w.heap.size, 0, none⟩) m cap) ∧ m ≤ n ∧ m ≤ cap ∧ Hid (Row w' w.heap.size m r ∧ SP.Sorted ltN 0 m r ∧ Below w.heap.size w w' ∧
      (∀ j, j < m → (r j).2.toList ≠ [] ∧ ∃ q, q < n ∧ r j = d q) ∧ ∀ q, q < n → (d q).2.toList ≠ [] → ∃ j, j < m ∧ r j = d q) := by
  have HD : Hid (SP.Dist ltN n d) := hD
  obtain ⟨cap, w1, hap, hcap, hr1, hb1⟩ := append_copy (c := c) hr h1 hn 26
  have H1 : Hid (Row w1 w.heap.size n d ∧ Below w.heap.size w w1) := ⟨hr1, hb1⟩
  have hcap0 : ¬ cap = 0 := by omega
  clear hr hD hr1 hb1
  go_enter Try.func28, Try.ntmps28
  go_wp2_with (at_builtin; refine Lib.wpList_append_run _ rfl _ _ _ _ rfl _ _ rfl rfl _ _ hap ?_)
  have HS : Hid (St (w1.alloc (.cells #[.slice (some ⟨w.heap.size, 0, none⟩) n cap] 26)) w.heap.size n cap w1.heap.size d) := ⟨H1.out.1.alloc _, by simp, by simp, by have := H1.out.1.lt; omega⟩
  refine (sliceStable_any hn HS.out HD.out).mono ?_
  rintro e' w2 ⟨rfl, g, hst, hp, hso, ho⟩
  have HT : Hid (St w2 w.heap.size n cap w1.heap.size g ∧ SP.PermOn 0 n d g ∧ SP.Sorted ltN 0 n g ∧ Below w.heap.size w w2 ∧ SP.Dist ltN n g) := by
    refine ⟨hst, hp, hso, (H1.out.2.alloc H1.out.2.size _).trans ⟨ho.os, ho.tape, ho.output, ho.size, fun k hk => ho.block k (by have := H1.out.2.size; simp; omega) (by omega)⟩, HD.out.perm hp (Nat.le_refl _)⟩
  have cs := hst.set
  clear hst hp hso ho HS
  go_wp2_with fail
  go_loopw [4, 17] (fun x y wr => ∃ i k : Nat, i ≤ n ∧ k ≤ i ∧ x = .slice (some ⟨w.heap.size, 0, none⟩) k cap ∧ y = .int .i64 i ∧ Hid (∃ e, St wr w.heap.size n cap w1.heap.size e ∧ Kept i k g e ∧ Oth w.heap.size w2 wr)) (fun _ y _ => n - (intOf y).toNat)
  case atStart => exact ⟨0, 0, Nat.zero_le _, Nat.le_refl _, rfl, rfl, g, HT.out.1, Kept.start g, Oth.refl _ _⟩
  case round =>
    clear cs
    obtain ⟨i, k, hi, hk, rfl, rfl, e, est, ekept, eoth⟩ := hrel
    have HE : Hid (St wr w.heap.size n cap w1.heap.size e ∧ Kept i k g e ∧ Oth w.heap.size w2 wr) := ⟨est, ekept, eoth⟩
    have cs := est.set
    clear est ekept eoth
    by_cases hlt : i < n
    · have c0 : wr.cell? ⟨w.heap.size, i * 2, none⟩ = some (.string (g i).1) := by rw [← HE.out.2.1.rest i (Nat.le_refl _)]; exact HE.out.1.row.cell0 hlt
      have c1 : wr.cell? ⟨w.heap.size, i * 2 + 1, none⟩ = some (.string (g i).2) := by rw [← HE.out.2.1.rest i (Nat.le_refl _)]; exact HE.out.1.row.cell1 hlt
      have hlt' : (i : Int) < n := by omega
      obtain ⟨x, hx⟩ : ∃ x, g i = x := ⟨_, rfl⟩
      rw [hx] at c0 c1
      have HL : Hid (St (wr.alloc (.cells #[.string x.1, .string x.2] 31)) w.heap.size n cap w1.heap.size e ∧ Oth w.heap.size w2 (wr.alloc (.cells #[.string x.1, .string x.2] 31))) := ⟨HE.out.1.alloc _, HE.out.2.2.alloc _⟩
      have l0 : (wr.alloc (.cells #[.string x.1, .string x.2] 31)).cell? ⟨wr.heap.size, 0, none⟩ = some (.string x.1) := by simp
      have l1 : (wr.alloc (.cells #[.string x.1, .string x.2] 31)).cell? ⟨wr.heap.size, 1, none⟩ = some (.string x.2) := by simp
      have HX : Hid (g i = x) := hx
      clear hx
      by_cases hn1 : i + 1 < n
      · have c2 : (wr.alloc (.cells #[.string x.1, .string x.2] 31)).cell? ⟨w.heap.size, (i + 1) * 2, none⟩ = some (.string (g (i + 1)).1) := by rw [← HE.out.2.1.rest (i + 1) (by omega)]; exact HL.out.1.row.cell0 hn1
        have q1 : decide ((i : Int) + 1 < n) = true := by simp; omega
        have q2 : ((g (i + 1)).1.toList == x.1.toList) = false := by
          have h := HT.out.2.2.1 i (i + 1) (Nat.zero_le _) (by omega) hn1
          rw [HX.out] at h
          rw [beq_eq_false_iff_ne]
          intro e
          unfold ltN at h
          rw [e, bl_irr] at h
          cases h
        have cs' := HL.out.1.set
        have wlt : wr.heap.size < (wr.alloc (.cells #[.string x.1, .string x.2] 31)).heap.size := by simp
        cases hv : x.2.toList.isEmpty
        · have HK : Hid (Kept (i + 1) (k + 1) g (fun j => if j = k then g i else e j)) := HE.out.2.1.take HT.out.2.2.1 hlt (by rw [HX.out]; simpa using hv)
          go_wp2_with fail
          generalize wr.alloc (.cells #[.string x.1, .string x.2] 31) = wL at *
          go_quiet (fail)
          have hap2 := append_one (W := (wL.drewN nq).alloc (.cells #[.string x.1, .string x.2] 31)) (n := n) (cap := cap) (k := k) (b := wL.heap.size) (x := x) (e := e) (((HL.out.1.row.drewN _).alloc _)) (by omega) (by omega) (new_two wL nq _ _ 31).1 (new_two wL nq _ _ 31).2 26
          go_wp2_with (at_builtin; refine Lib.wpList_append_run _ rfl _ _ _ _ rfl _ _ rfl rfl _ _ hap2 ?_)
          have HP : Hid (∃ e', St ((((wL.drewN nq).alloc (.cells #[.string x.1, .string x.2] 31)).setCell ⟨w.heap.size, k * 2, none⟩ (.string x.1)).setCell ⟨w.heap.size, k * 2 + 1, none⟩ (.string x.2)) w.heap.size n cap w1.heap.size e' ∧ Kept (i + 1) (k + 1) g e' ∧ Oth w.heap.size w2 ((((wL.drewN nq).alloc (.cells #[.string x.1, .string x.2] 31)).setCell ⟨w.heap.size, k * 2, none⟩ (.string x.1)).setCell ⟨w.heap.size, k * 2 + 1, none⟩ (.string x.2))) := by
            refine ⟨_, ((HL.out.1.drewN nq).alloc _).step (((Oth.refl _ _).set _ _).set _ _) (Row.put ((HL.out.1.row.drewN nq).alloc _) (by omega) x), ?_, (((HL.out.2.drewN nq).alloc _).set _ _).set _ _⟩
            rw [← HX.out]; exact HK.out
          go_roundw
          case rel => exact ⟨i + 1, k + 1, by omega, by omega, rfl, by go_num, HP.out⟩
          case measure => simp [intOf]; omega
        · have HK : Hid (Kept (i + 1) k g e) := HE.out.2.1.skip (by rw [HX.out]; simpa using hv)
          go_wp2_with fail
          generalize wr.alloc (.cells #[.string x.1, .string x.2] 31) = wL at *
          go_quiet (fail)
          go_wp2_with fail
          go_roundw
          case rel => exact ⟨i + 1, k, by omega, by omega, rfl, by go_num, e, HL.out.1.drewN _, HK.out, HL.out.2.drewN _⟩
          case measure => simp [intOf]; omega
      · have q1 : decide ((i : Int) + 1 < n) = false := by simp; omega
        have cs' := HL.out.1.set
        have wlt : wr.heap.size < (wr.alloc (.cells #[.string x.1, .string x.2] 31)).heap.size := by simp
        cases hv : x.2.toList.isEmpty
        · have HK : Hid (Kept (i + 1) (k + 1) g (fun j => if j = k then g i else e j)) := HE.out.2.1.take HT.out.2.2.1 hlt (by rw [HX.out]; simpa using hv)
          go_wp2_with fail
          generalize wr.alloc (.cells #[.string x.1, .string x.2] 31) = wL at *
          go_quiet (fail)
          have hap2 := append_one (W := (wL.drewN nq).alloc (.cells #[.string x.1, .string x.2] 31)) (n := n) (cap := cap) (k := k) (b := wL.heap.size) (x := x) (e := e) (((HL.out.1.row.drewN _).alloc _)) (by omega) (by omega) (new_two wL nq _ _ 31).1 (new_two wL nq _ _ 31).2 26
          go_wp2_with (at_builtin; refine Lib.wpList_append_run _ rfl _ _ _ _ rfl _ _ rfl rfl _ _ hap2 ?_)
          have HP : Hid (∃ e', St ((((wL.drewN nq).alloc (.cells #[.string x.1, .string x.2] 31)).setCell ⟨w.heap.size, k * 2, none⟩ (.string x.1)).setCell ⟨w.heap.size, k * 2 + 1, none⟩ (.string x.2)) w.heap.size n cap w1.heap.size e' ∧ Kept (i + 1) (k + 1) g e' ∧ Oth w.heap.size w2 ((((wL.drewN nq).alloc (.cells #[.string x.1, .string x.2] 31)).setCell ⟨w.heap.size, k * 2, none⟩ (.string x.1)).setCell ⟨w.heap.size, k * 2 + 1, none⟩ (.string x.2))) := by
            refine ⟨_, ((HL.out.1.drewN nq).alloc _).step (((Oth.refl _ _).set _ _).set _ _) (Row.put ((HL.out.1.row.drewN nq).alloc _) (by omega) x), ?_, (((HL.out.2.drewN nq).alloc _).set _ _).set _ _⟩
            rw [← HX.out]; exact HK.out
          go_roundw
          case rel => exact ⟨i + 1, k + 1, by omega, by omega, rfl, by go_num, HP.out⟩
          case measure => simp [intOf]; omega
        · have HK : Hid (Kept (i + 1) k g e) := HE.out.2.1.skip (by rw [HX.out]; simpa using hv)
          go_wp2_with fail
          generalize wr.alloc (.cells #[.string x.1, .string x.2] 31) = wL at *
          go_quiet (fail)
          go_wp2_with fail
          go_roundw
          case rel => exact ⟨i + 1, k, by omega, by omega, rfl, by go_num, e, HL.out.1.drewN _, HK.out, HL.out.2.drewN _⟩
          case measure => simp [intOf]; omega
    · obtain rfl : i = n := by omega
      have HZ : Hid (Row wr w.heap.size k e ∧ SP.Sorted ltN 0 k e ∧ Below w.heap.size w wr ∧ (∀ j, j < k → (e j).2.toList ≠ [] ∧ ∃ q, q < i ∧ e j = d q) ∧ ∀ q, q < i → (d q).2.toList ≠ [] → ∃ j, j < k ∧ e j = d q) := by
        obtain ⟨est, ek, eo⟩ := HE.out
        refine ⟨?_, ek.sorted, HT.out.2.2.2.1.trans ⟨eo.os, eo.tape, eo.output, eo.size, fun q hq => eo.block q (by have := HT.out.2.2.2.1.size; omega) (by omega)⟩, fun j hj => ⟨(ek.of j hj).1, ?_⟩, fun q hq hne => ?_⟩
        · obtain ⟨cc, h1, h2, h3⟩ := est.row
          exact ⟨cc, h1, by omega, fun q hq => h3 q (by omega)⟩
        · obtain ⟨q, hq, e1⟩ := (ek.of j hj).2
          obtain ⟨q2, _, hq2, e2⟩ := HT.out.2.1.mem (Nat.zero_le q) hq
          exact ⟨q2, hq2, by rw [e1, e2]⟩
        · obtain ⟨q2, _, hq2, e2⟩ := HT.out.2.1.mem' (Nat.zero_le q) hq
          obtain ⟨j, hj, e3⟩ := ek.all q2 hq2 (by rw [← e2]; exact hne)
          exact ⟨j, hj, by rw [e3, e2]⟩
      go_wp2
      go_ret
      exact ⟨cap, k, e, rfl, hk, by omega, HZ⟩
end Go.Proofs.Qxb6615577a
