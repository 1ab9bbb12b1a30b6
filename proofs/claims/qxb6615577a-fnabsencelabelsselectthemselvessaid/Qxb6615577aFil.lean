/- Labels.filter (32). -/
import Derived.Test.Qxb6615577aWp
import Derived.Deep.RegionLaw
import Derived.Deep.Cut
namespace Go.Proofs.Qxb6615577a
open Go.RowKit

theorem make26 (n : Nat) (h1 : 1 ≤ n) (hn : n ≤ 1048576) (W : World) : (Instr.makeSlice 26 (.int .i64 0) (.int .i64 ((n : Int) - 1))).run Try.prog W = .ok (.slice (some ⟨W.heap.size, 0, none⟩) 0 (n - 1)) (W.alloc (.cells (madeCells #[.string ByteArray.empty, .string ByteArray.empty] ((n - 1) * 2)) 31)) := by
  obtain ⟨i0, hi0, hz0, hz1, hz2⟩ := info_parts Try.info31
  have hr := run_make (P := Try.prog) W 26 31 i0 _ Try.underlying26 hi0 hz0 .i64 .i64 0 ((n : Int) - 1) (Int.le_refl _) (by omega) (by rw [hz2]; omega) (by omega)
  rw [hr, hz1, show ((n : Int) - 1).toNat = n - 1 by omega]
  rfl

theorem Row.made {W : World} {n : Nat} : Row (W.alloc (.cells (madeCells #[.string ByteArray.empty, .string ByteArray.empty] (n * 2)) 31)) W.heap.size n (fun _ => (ByteArray.empty, ByteArray.empty)) := by

  refine ⟨_, heap_alloc_new W _, by simp [madeCells], fun i hi => ⟨made_str _ _ (by omega), made_str _ _ (by omega)⟩⟩

theorem Row.short {w : World} {B n k : Nat} {r : Nat → Lab} (h : Row w B n r) (hk : k ≤ n) : Row w B k r := by
  obtain ⟨c, h1, h2, h3⟩ := h
  exact ⟨c, h1, by omega, fun i hi => h3 i (by omega)⟩

theorem setCells_block (D : Nat) {t : TypeId} {fz : Nat × Nat} : ∀ (news : List Value) (o : Nat) (w : World) (c : Array Value), w.heap[D]? = some (.cells c t fz) → o + news.length ≤ c.size →
    ∃ c', (w.setCells D o news).heap[D]? = some (.cells c' t fz) ∧ c'.size = c.size ∧ ∀ j, c'[j]? = if o ≤ j ∧ j < o + news.length then news[j - o]? else c[j]?
  | [], o, w, c, h, _ => ⟨c, h, rfl, fun j => by rw [if_neg (by simp)]⟩
  | v :: vs, o, w, c, h, hl => by
    simp only [List.length_cons] at hl
    obtain ⟨c', h1, h2, h3⟩ := setCells_block D (t := t) (fz := fz) vs (o + 1) (w.setCell ⟨D, o, none⟩ v) (c.setIfInBounds o v) (by simp [World.setCell, Array.getElem?_modify, h]) (by simp; omega)
    refine ⟨c', h1, by simpa using h2, fun j => ?_⟩
    rw [h3 j]
    simp only [List.length_cons]
    by_cases e : j = o
    · subst e
      rw [if_neg (by omega), if_pos (by omega), Array.getElem?_setIfInBounds_self_of_lt (by omega)]
      simp
    · by_cases c1 : o + 1 ≤ j ∧ j < o + 1 + vs.length
      · rw [if_pos c1, if_pos (by omega), show j - o = (j - (o + 1)) + 1 by omega]
        simp
      · rw [if_neg c1, if_neg (by omega), Array.getElem?_setIfInBounds_ne (by omega)]

theorem Row.fill {W : World} {D k i : Nat} {e r : Nat → Lab} {news : List Value} (h : Row W D k e) (hik : i ≤ k) (nl : news.length = i * 2) (nd : ∀ j, j < i → news[j * 2]? = some (.string (r j).1) ∧ news[j * 2 + 1]? = some (.string (r j).2)) : Row (W.setCells D 0 news) D k (fun j => if j < i then r j else e j) := by
  obtain ⟨c, h1, h2, h3⟩ := h
  obtain ⟨c', g1, g2, g3⟩ := setCells_block D news 0 W c h1 (by omega)
  refine ⟨c', g1, by omega, fun j hj => ?_⟩
  rw [g3, g3]
  by_cases hji : j < i
  · rw [if_pos (by omega), if_pos (by omega)]
    simp only [if_pos hji]
    exact nd j hji
  · rw [if_neg (by omega), if_neg (by omega)]
    simp only [if_neg hji]
    exact h3 j hj

theorem Below.setCells {B : Nat} {a : World} {D : Nat} (hD : B ≤ D) : ∀ (news : List Value) (o : Nat) (w : World), Below B a w → Below B a (w.setCells D o news)
  | [], _, _, h => h
  | v :: vs, o, _, h => Below.setCells hD vs (o + 1) _ (h.setCell (p := ⟨D, o, none⟩) hD v)

/-- Behind the first t labels: k of them are kept, in e's front. -/
structure Fk (f : Nat → ByteArray) (m : Nat) (r : Nat → Lab) (t k : Nat) (e : Nat → Lab) : Prop where
  le : k + 1 ≤ t
  sorted : SP.Sorted ltN 0 k e
  of : ∀ j, j < k → hasB f m (e j).1 = false ∧ ∃ q, q < t ∧ e j = r q
  all : ∀ q, q < t → hasB f m (r q).1 = false → ∃ j, j < k ∧ e j = r q
theorem Fk.start {f : Nat → ByteArray} {m i n : Nat} {r e : Nat → Lab} (hi : i < n) (hs : SP.Sorted ltN 0 n r) (he : ∀ j, j < i → e j = r j) (hy : hasB f m (r i).1 = true) (hno : ∀ j, j < i → hasB f m (r j).1 = false) : Fk f m r (i + 1) i e :=
  ⟨Nat.le_refl _, fun p q h1 h2 h3 => by rw [he p (by omega), he q h3]; exact hs p q h1 h2 (by omega), fun j hj => ⟨by rw [he j hj]; exact hno j hj, j, by omega, he j hj⟩,
    fun q hq hn => by
      by_cases c : q = i
      · subst c; rw [hy] at hn; cases hn
      · exact ⟨q, by omega, he q (by omega)⟩⟩
theorem Fk.skip {f : Nat → ByteArray} {m t k : Nat} {r e : Nat → Lab} (h : Fk f m r t k e) (hy : hasB f m (r t).1 = true) : Fk f m r (t + 1) k e :=
  ⟨by have := h.le; omega, h.sorted, fun j hj => ⟨(h.of j hj).1, by obtain ⟨q, hq, e⟩ := (h.of j hj).2; exact ⟨q, by omega, e⟩⟩, fun q hq hn => by
    by_cases c : q = t
    · subst c; rw [hy] at hn; cases hn
    · exact h.all q (by omega) hn⟩
theorem Fk.take {f : Nat → ByteArray} {m t k n : Nat} {r e : Nat → Lab} (h : Fk f m r t k e) (ht : t < n) (hs : SP.Sorted ltN 0 n r) (hno : hasB f m (r t).1 = false) : Fk f m r (t + 1) (k + 1) (fun j => if j = k then r t else e j) := by
  have hle := h.le
  refine ⟨by omega, fun p q _ h2 h3 => ?_, fun j hj => ?_, fun q hq hn => ?_⟩
  · by_cases c : q = k
    · simp only [c, if_true, if_neg (show ¬ p = k by omega)]
      obtain ⟨z, hz, e2⟩ := (h.of p (by omega)).2
      rw [e2]; exact hs z t (by omega) hz ht
    · simp only [if_neg c, if_neg (show ¬ p = k by omega)]; exact h.sorted p q (by omega) h2 (by omega)
  · by_cases c : j = k
    · simp only [c, if_true]; exact ⟨hno, t, by omega, rfl⟩
    · simp only [if_neg c]; exact ⟨(h.of j (by omega)).1, by obtain ⟨q, hq, e⟩ := (h.of j (by omega)).2; exact ⟨q, by omega, e⟩⟩
  · by_cases c : q = t
    · subst c; exact ⟨k, by omega, by simp⟩
    · obtain ⟨j, hj, e2⟩ := h.all q (by omega) hn
      exact ⟨j, by omega, by simp only [if_neg (show ¬ j = k by omega)]; exact e2⟩

/-- What filter hands back. -/
def FilR (f : Nat → ByteArray) (m n : Nat) (r : Nat → Lab) (w w' : World) (so' : Option Addr) (n' : Nat) (r' : Nat → Lab) : Prop :=
  n' ≤ n ∧ LabRow w' so' n' r' ∧ SP.Sorted ltN 0 n' r' ∧ Below w.heap.size w w' ∧ (∀ j, j < n' → hasB f m (r' j).1 = false ∧ ∃ q, q < n ∧ r' j = r q) ∧ ∀ q, q < n → hasB f m (r q).1 = false → ∃ j, j < n' ∧ r' j = r q

set_option maxRecDepth 10000 in
set_option maxHeartbeats 4000000 in
theorem filter_any {w : World} {N B n cap : Nat} {co : Option Addr} {m cc : Nat} {f : Nat → ByteArray} {r : Nat → Lab} (h : Kp w N co m cc f) (hm : m ≤ 1048576) (h1 : 1 ≤ n) (hn : n ≤ 1048576) (hcap : n ≤ cap) (hr : Row w B n r) (hs : SP.Sorted ltN 0 n r) :
    Calls Try.prog 32 #[.slice (some ⟨B, 0, none⟩) n cap, .func (.func 33) #[] #[.pointer (some ⟨N, 0, none⟩)]] w fun e w' => ∃ so' n' cap' r', e = .returned (.slice so' n' cap') ∧ Hid (FilR f m n r w w' so' n' r') := by
  have H : Hid (Kp (w.alloc (.cells #[.func (.func 33) #[] #[.pointer (some ⟨N, 0, none⟩)]] 77)) N co m cc f ∧ Row (w.alloc (.cells #[.func (.func 33) #[] #[.pointer (some ⟨N, 0, none⟩)]] 77)) B n r ∧ SP.Sorted ltN 0 n r) := ⟨h.alloc _, hr.alloc _, hs⟩
  have hBlt := hr.lt
  clear h hr hs
  go_enter Try.func32, Try.ntmps32
  go_wp2_with fail
  refine (indexFunc_any H.out.1 (by simp) (by simp) hm hn H.out.2.1.lab).mono ?_
  rintro e w1 ⟨q, rfl, hq⟩
  have HB : Hid (Below w.heap.size w w1) := ((Below.refl _ _).alloc (Nat.le_refl _) _).trans (hq.out.1.mono (by simp))
  have HB1 : Hid (Below (w.heap.size + 1) (w.alloc (.cells #[.func (.func 33) #[] #[.pointer (some ⟨N, 0, none⟩)]] 77)) w1) := by have := hq.out.1; show Below _ _ _; simpa using this
  rcases hq.out.2 with ⟨rfl, hall⟩ | ⟨i, hi, rfl, hyes, hno⟩
  · have HF : Hid (FilR f m n r w w1 (some ⟨B, 0, none⟩) n r) := ⟨Nat.le_refl _, H.out.2.1.lab.below hq.out.1, H.out.2.2, HB.out, fun j hj => ⟨hall j hj, j, hj, rfl⟩, fun q hq _ => ⟨q, hq, rfl⟩⟩
    clear hall hq
    go_wp2
    go_ret
    exact ⟨_, _, _, _, rfl, HF⟩
  · have HI : Hid (hasB f m (r i).1 = true ∧ (∀ j, j < i → hasB f m (r j).1 = false) ∧ Kp w1 N co m cc f ∧ Row w1 B n r) := ⟨hyes, hno, H.out.1.below hq.out.1, H.out.2.1.of_block (hq.out.1.block _ (by have := H.out.2.1.lt; exact this))⟩
    clear hyes hno hq
    have hmk := make26 n h1 hn
    have hic : i ≤ cap := by omega
    have hwr : IntKind.i64.wrap ((n : Int) - 1) = (n : Int) - 1 := by rw [IntKind.wrap_i64]; omega
    obtain ⟨news, nl, ncell, none1, ndat⟩ := (HI.out.2.2.2.short (k := i) (by omega)).news
    obtain ⟨i0, hi0, hz0, hz1, hz2⟩ := info_parts Try.info31
    have HX : Hid (∀ W : World, W.heap = (w1.alloc (.cells (madeCells #[.string ByteArray.empty, .string ByteArray.empty] ((n - 1) * 2)) 31)).heap → (∀ j u, news[j]? = some u → W.cell? ((⟨B, 0, none⟩ : Addr).add j) = some u) ∧ (∀ j, j < news.length → (W.cell? ⟨w1.heap.size, 0 + 0 * 2 + j, none⟩).isSome = true ∧ W.frozen? ⟨w1.heap.size, 0 + 0 * 2 + j, none⟩ = false)) := by
      intro W hW
      have hB1 := HI.out.2.2.2.lt
      have hM : Row W w1.heap.size (n - 1) (fun _ => (ByteArray.empty, ByteArray.empty)) := (Row.made (W := w1) (n := n - 1)).of_block (by rw [hW])
      refine ⟨fun j u hu => ?_, fun j hj => ⟨?_, ?_⟩⟩
      · rw [Addr.add_lit, World.cell?_of_block (w := w1) (by rw [hW]; exact Below.heap_alloc _ _ _ hB1)]
        simpa using ncell j u hu
      · rw [nl] at hj
        have hj2 : j / 2 < n - 1 := by omega
        by_cases e : j % 2 = 0
        · rw [show 0 + 0 * 2 + j = j / 2 * 2 by omega, hM.cell0 hj2]; rfl
        · rw [show 0 + 0 * 2 + j = j / 2 * 2 + 1 by omega, hM.cell1 hj2]; rfl
      · exact hM.frozen _
    have HN : Hid (news.length = i * 2 ∧ (∀ u ∈ news, u.oneCell' = true)) := ⟨nl, none1⟩
    have HND : Hid (∀ j, j < i → news[j * 2]? = some (.string (r j).1) ∧ news[j * 2 + 1]? = some (.string (r j).2)) := ndat
    clear nl ncell none1 ndat
    go_upto_region 4 with fail
    go_cut [6] from 15 (fun x wc => x = .slice (some ⟨w1.heap.size, 0, none⟩) i (n - 1) ∧ Hid (∃ e, Row wc w1.heap.size (n - 1) e ∧ (∀ j, j < i → e j = r j) ∧ Below w1.heap.size w1 wc))
    case first =>
      go_region_law (refine step_append_room rfl (.tmp 18) (.tmp 21) 26 rfl 31 i0 2 Try.underlying26 hi0 hz1 w1.heap.size 0 0 (n - 1) (by simp [Act.eval]) ⟨B, 0, none⟩ i cap news (by simp [Act.eval]) HN.out.1 (HX.out _ rfl).1 HN.out.2 (by omega) (HX.out _ rfl).2 ?_)
      all_goals
        go_wp2
        go_meet
        exact ⟨by simp, _, Row.fill (Row.made (W := w1.drew) (n := n - 1)) (by omega) HN.out.1 HND.out, fun j hj => by simp only [if_pos hj], Below.setCells (Nat.le_refl _) _ _ _ (((Below.refl _ _).drew).alloc (Nat.le_refl _) _)⟩
    case rest =>
      obtain ⟨rfl, HE0⟩ := hcut
      have HE1 : Hid (∃ e, Row wc w1.heap.size (n - 1) e ∧ Fk f m r (i + 1) i e ∧ Below w1.heap.size w1 wc) := by
        obtain ⟨e, h1, h2, h3⟩ := HE0.out
        exact ⟨e, h1, Fk.start hi H.out.2.2 h2 HI.out.1 HI.out.2.1, h3⟩
      clear HE0 HX HN HND hmk
      by_cases hlast : i + 1 = n
      · have HF : Hid (∃ e, FilR f m n r w wc (some ⟨w1.heap.size, 0, none⟩) i e) := by
          obtain ⟨e, h1, h2, h3⟩ := HE1.out
          rw [hlast] at h2
          exact ⟨e, by omega, (h1.short (by omega)).lab, h2.sorted, HB.out.trans (h3.mono HB.out.size), h2.of, h2.all⟩
        have hz : ¬ (0 : Int) < ((n - (i + 1) : Nat) : Int) := by omega
        have HL : Hid (i + 1 = n) := hlast
        have l1 : i + 1 ≤ n := by omega
        clear hlast HE1
        by_cases hcn : cap = i + 1
        · have HC : Hid (cap = i + 1) := hcn
          go_wp2_with fail
          go_loopw [6, 28] (fun x y wr => x = .slice (some ⟨w1.heap.size, 0, none⟩) i (n - 1) ∧ y = .int .i64 0 ∧ wc = wr) (fun _ _ _ => 0)
          case atStart => exact ⟨rfl, rfl, rfl⟩
          case round =>
            obtain ⟨rfl, rfl, rfl⟩ := hrel
            go_wp2
            go_ret
            exact ⟨_, _, _, _, rfl, HF.out.choose_spec⟩
        · go_wp2_with fail
          go_loopw [6, 28] (fun x y wr => x = .slice (some ⟨w1.heap.size, 0, none⟩) i (n - 1) ∧ y = .int .i64 0 ∧ wc = wr) (fun _ _ _ => 0)
          case atStart => exact ⟨rfl, rfl, rfl⟩
          case round =>
            obtain ⟨rfl, rfl, rfl⟩ := hrel
            go_wp2
            go_ret
            exact ⟨_, _, _, _, rfl, HF.out.choose_spec⟩
      · have hcn : ¬ cap = i + 1 := by omega
        go_wp2_with fail
        go_loopw [6, 28] (fun x y wr => ∃ j k : Nat, j ≤ n - (i + 1) ∧ x = .slice (some ⟨w1.heap.size, 0, none⟩) k (n - 1) ∧ y = .int .i64 j ∧ Hid (∃ e, Row wr w1.heap.size (n - 1) e ∧ Fk f m r (i + 1 + j) k e ∧ Below w1.heap.size w1 wr)) (fun _ y _ => n - (intOf y).toNat)
        case atStart => exact ⟨0, i, Nat.zero_le _, rfl, rfl, HE1.out⟩
        case round =>
          clear HE1
          obtain ⟨j, k, hj, rfl, rfl, e, erow, efk, ebel⟩ := hrel
          have hk := efk.le
          have HE : Hid (Row wr w1.heap.size (n - 1) e ∧ Fk f m r (i + 1 + j) k e ∧ Below w1.heap.size w1 wr) := ⟨erow, efk, ebel⟩
          clear erow efk ebel
          by_cases hlt : j < n - (i + 1)
          · have hBw := HI.out.2.2.2.lt
            have c0 : wr.cell? ⟨B, (i + 1) * 2 + j * 2, none⟩ = some (.string (r (i + 1 + j)).1) := by
              rw [← Nat.add_mul, HE.out.2.2.cell (p := ⟨B, _, none⟩) hBw]; exact HI.out.2.2.2.cell0 (by omega)
            have c1 : wr.cell? ⟨B, (i + 1) * 2 + j * 2 + 1, none⟩ = some (.string (r (i + 1 + j)).2) := by
              rw [← Nat.add_mul, HE.out.2.2.cell (p := ⟨B, _, none⟩) hBw]; exact HI.out.2.2.2.cell1 (by omega)
            have hlt' : (j : Int) < ((n - (i + 1) : Nat) : Int) := by omega
            have hFl : w.heap.size < w1.heap.size := by have := HB1.out.size; simp at this; omega
            have cF : (wr.alloc (.cells #[.string (r (i + 1 + j)).1, .string (r (i + 1 + j)).2] 31)).cell? ⟨w.heap.size, 0, none⟩ = some (.func (.func 33) #[] #[.pointer (some ⟨N, 0, none⟩)]) := by
              rw [(((HE.out.2.2.alloc HE.out.2.2.size _)).cell (p := ⟨w.heap.size, 0, none⟩) hFl), HB1.out.cell (p := ⟨w.heap.size, 0, none⟩) (by show w.heap.size < w.heap.size + 1; omega)]
              simp
            have HKp : Hid (Kp (wr.alloc (.cells #[.string (r (i + 1 + j)).1, .string (r (i + 1 + j)).2] 31)) N co m cc f) := HI.out.2.2.1.below (HE.out.2.2.alloc HE.out.2.2.size _)
            go_wp2_with fail
            refine (keep_any (r (i + 1 + j)) HKp.out hm).mono ?_
            rintro e' w3 ⟨rfl, hb3⟩
            have HR3 : Hid (Row w3 w1.heap.size (n - 1) e ∧ Below w1.heap.size w1 w3 ∧ w3.cell? ⟨wr.heap.size, 0, none⟩ = some (.string (r (i + 1 + j)).1) ∧ w3.cell? ⟨wr.heap.size, 1, none⟩ = some (.string (r (i + 1 + j)).2)) := by
              refine ⟨(HE.out.1.alloc _).of_block (hb3.block _ (by have := HE.out.1.lt; simp; omega)), (HE.out.2.2.alloc HE.out.2.2.size _).trans (hb3.mono (by have := HE.out.2.2.size; simp; omega)), ?_, ?_⟩
              · rw [hb3.cell (p := ⟨wr.heap.size, 0, none⟩) (by simp)]; simp
              · rw [hb3.cell (p := ⟨wr.heap.size, 1, none⟩) (by simp)]; simp
            have l0 := HR3.out.2.2.1
            have l1 := HR3.out.2.2.2
            clear hb3
            cases hq : hasB f m (r (i + 1 + j)).1
            · have HT : Hid (Fk f m r (i + 1 + j + 1) (k + 1) (fun p => if p = k then r (i + 1 + j) else e p)) := HE.out.2.1.take (by omega) H.out.2.2 hq
              have hap2 := append_one (W := w3.alloc (.cells #[.string (r (i + 1 + j)).1, .string (r (i + 1 + j)).2] 31)) (n := n - 1) (cap := n - 1) (k := k) (b := w3.heap.size) (x := r (i + 1 + j)) (e := e) (HR3.out.1.alloc _) (by omega) (by omega) (by simp) (by simp) 26
              go_wp2_with (at_builtin; refine Lib.wpList_append_run _ rfl _ _ _ _ rfl _ _ rfl rfl _ _ hap2 ?_)
              go_roundw
              case rel =>
                refine ⟨j + 1, k + 1, by omega, rfl, by go_num, _, (HR3.out.1.alloc _).put (by omega) _, HT.out, ?_⟩
                exact (((HR3.out.2.1.alloc HR3.out.2.1.size _).setCell (Nat.le_refl _) _).setCell (Nat.le_refl _) _)
              case measure => simp [intOf]; omega
            · have HT : Hid (Fk f m r (i + 1 + j + 1) k e) := HE.out.2.1.skip hq
              go_wp2_with fail
              go_roundw
              case rel => exact ⟨j + 1, k, by omega, rfl, by go_num, e, HR3.out.1, HT.out, HR3.out.2.1⟩
              case measure => simp [intOf]; omega
          · have HF : Hid (FilR f m n r w wr (some ⟨w1.heap.size, 0, none⟩) k e) := by
              obtain ⟨h1, h2, h3⟩ := HE.out
              have et : i + 1 + j = n := by omega
              rw [et] at h2
              have := h2.le
              exact ⟨by omega, (h1.short (by omega)).lab, h2.sorted, HB.out.trans (h3.mono HB.out.size), h2.of, h2.all⟩
            go_wp2
            go_ret
            exact ⟨_, _, _, _, rfl, HF⟩
end Go.Proofs.Qxb6615577a
