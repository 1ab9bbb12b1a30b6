/- FnAbsenceLabelsSelectThemselves (6): the walk. -/
import Derived.Test.Qxb6615577aF6a
namespace Go.Proofs.Qxb6615577a
open Go.RowKit

set_option maxRecDepth 40000 in
set_option maxHeartbeats 1000000 in
theorem f6_long (hs : Bool) (ao : Option Addr) (len cap : Nat) (o a t x y : Int) (w : World) (hm : len ≤ maxLen) (hl : 4096 < len) {M : Nat → Mtc} (h : MIn w ao len M) :
    Calls Try.prog 6 #[.bool hs, .slice ao len cap, .int .i64 o, .int .i64 a, .int .i64 t, .int .i64 x, .int .i64 y] w fun e w' => e = .returned (.bool true) ∧ Below w.heap.size w w' := by
  have c19 : Hid (Calls Try.prog 19 #[.bool hs, .slice ao len cap, .int .i64 o, .int .i64 a, .int .i64 t, .int .i64 x, .int .i64 y] w fun e w' => RetBool e ∧ w' = w) := bytes19 hs ao len cap o a t x y w hm h
  clear h hm
  go_enter Try.func6, Try.ntmps6
  go_wp2_with fail
  refine c19.out.mono ?_
  rintro e w' ⟨⟨r, rfl⟩, rfl⟩
  cases r
  all_goals
    go_wp2
    go_ret
    exact ⟨rfl, Below.refl _ _⟩

theorem Mk.below {wr w' : World} {P n k : Nat} {M : Nat → Mtc} (h : Mk wr P n k M) (hb : Below wr.heap.size wr w') : Mk w' P n k M := by
  have hlt := h.lt
  obtain ⟨c, hc, hs, hr⟩ := h
  refine ⟨c, (hb.block P hlt).trans hc, hs, fun i hi => ?_⟩
  obtain ⟨q, h1, h2, h3, h4, h5, h6⟩ := hr i hi
  have := hb.size
  exact ⟨q, h1, by omega, h3, (hb.cell (p := ⟨q, _, none⟩) h2).trans h4, (hb.cell (p := ⟨q, _, none⟩) h2).trans h5, (hb.cell (p := ⟨q, _, none⟩) h2).trans h6⟩

theorem Mk.mats {wr : World} {P C n : Nat} {M : Nat → Mtc} (h : Mk wr P C n M) (hz : ∀ i, i < n → (M i).nm.size ≤ maxLen ∧ (M i).vl.size ≤ maxLen) : Mat wr (some ⟨P, 0, none⟩) n M := fun i hi => by
  have hlt := h.lt
  obtain ⟨c, hc, hs, hr⟩ := h
  obtain ⟨q, h1, h2, h3, h4, h5, h6⟩ := hr i hi
  exact ⟨P, q, rfl, hlt, h2, by simpa [World.cell?, hc] using h3, h4, h5, h6, hz i hi⟩

/-- The list of pointers under way. -/
structure Ps (W1 wr : World) (C i : Nat) (l : List Mtc) : Prop where
  len : l.length = i
  rows : Mk wr W1.heap.size C i (gm l)
  bel : Below W1.heap.size W1 wr
  size : ∀ m ∈ l, m.nm.size ≤ maxLen ∧ m.vl.size ≤ maxLen

/-- The world behind 'ps = append(ps, &labels.Matcher{..})', before the append's store. -/
def twoNew (wr : World) (m : Mtc) : World := (wr.alloc (.cells (mCells m) 53)).alloc (.cells #[.pointer (some ⟨wr.heap.size, 0, none⟩)] 49)

theorem Ps.below {W1 wr w' : World} {C i : Nat} {l : List Mtc} (h : Ps W1 wr C i l) (hb : Below wr.heap.size wr w') : Ps W1 w' C i l :=
  ⟨h.len, h.rows.below hb, h.bel.trans (hb.mono h.bel.size), h.size⟩
theorem Ps.push {W1 wr : World} {C i : Nat} {l : List Mtc} (h : Ps W1 wr C i l) (hi : i < C) {m : Mtc} (hz : m.nm.size ≤ maxLen ∧ m.vl.size ≤ maxLen) : Ps W1 ((twoNew wr m).setCell ⟨W1.heap.size, i, none⟩ (.pointer (some ⟨wr.heap.size, 0, none⟩))) C (i + 1) (l ++ [m]) := by
  obtain ⟨h1, h2, h3, h4⟩ := h
  subst h1
  refine ⟨by simp, ?_, (((h3.alloc h3.size _).alloc (by have := h3.size; simp; omega) _).setCell (Nat.le_refl _) _), fun m' hm' => ?_⟩
  · have := h2.push (m := m) hi
    simpa [twoNew] using this
  · rcases List.mem_append.1 hm' with c | c
    · exact h4 m' c
    · rw [List.mem_singleton] at c; subst c; exact hz
theorem Ps.facts {W1 wr : World} {C i : Nat} {l : List Mtc} (h : Ps W1 wr C i l) (hi : i < C) (m : Mtc) : ∀ W : World, W.heap = (twoNew wr m).heap → (∀ j u, [Value.pointer (some ⟨wr.heap.size, 0, none⟩)][j]? = some u → W.cell? ((⟨wr.heap.size + 1, 0, none⟩ : Addr).add j) = some u) ∧
    (∀ j, j < [Value.pointer (some ⟨wr.heap.size, 0, none⟩)].length → (W.cell? ⟨W1.heap.size, 0 + i * 1 + j, none⟩).isSome = true ∧ W.frozen? ⟨W1.heap.size, 0 + i * 1 + j, none⟩ = false) := by
  intro W hW
  have hlt := h.rows.lt
  obtain ⟨c, hc, hs, _⟩ := h.rows
  have he : W.heap[W1.heap.size]? = some (.cells c 49 (0, 0)) := by
    rw [hW]; exact (Below.heap_alloc _ _ _ (by simp; omega)).trans ((Below.heap_alloc _ _ _ hlt).trans hc)
  have hn : W.heap[wr.heap.size + 1]? = some (.cells #[.pointer (some ⟨wr.heap.size, 0, none⟩)] 49 (0, 0)) := by
    rw [hW]
    have := heap_alloc_new (wr.alloc (.cells (mCells m) 53)) (.cells #[.pointer (some ⟨wr.heap.size, 0, none⟩)] 49)
    simpa [twoNew] using this
  refine ⟨fun j u hu => ?_, fun j hj => ⟨?_, ?_⟩⟩
  · match j, hu with
    | 0, hu => simp at hu; subst hu; simp [World.cell?, hn, Addr.add]
  · have : j = 0 := by simpa using hj
    subst this
    simp [World.cell?, he, hs, hi]
  · simp [World.frozen?, he]

theorem Ps.laid {W1 wr : World} {C i : Nat} {l : List Mtc} (h : Ps W1 wr C i l) (hi : i < C) {m : Mtc} (hz : m.nm.size ≤ maxLen ∧ m.vl.size ≤ maxLen) : Ps W1 ((twoNew wr m).drew.setCells W1.heap.size i [.pointer (some ⟨wr.heap.size, 0, none⟩)]) C (i + 1) (l ++ [m]) :=
  (h.push hi hz).below ((Below.refl _ _).drew)

theorem one_eq : (FloatKind.f64.format.order 4607182418800017408 4607182418800017408 != some Ordering.eq) = false := by kernel_rfl

set_option maxRecDepth 40000 in
set_option maxHeartbeats 8000000 in
theorem f6_main (hs : Bool) (ao : Option Addr) (len cap : Nat) (o a t x y : Int) (w : World) (hm : len ≤ maxLen) (hl : len ≤ 4096) {M : Nat → Mtc} (h : MIn w ao len M) (hnil : ao = none → len = 0 ∧ cap = 0) :
    Calls Try.prog 6 #[.bool hs, .slice ao len cap, .int .i64 o, .int .i64 a, .int .i64 t, .int .i64 x, .int .i64 y] w fun e w' => e = .returned (.bool true) ∧ Below w.heap.size w w' := by
  have c19 : Hid (Calls Try.prog 19 #[.bool hs, .slice ao len cap, .int .i64 o, .int .i64 a, .int .i64 t, .int .i64 x, .int .i64 y] w fun e w' => RetBool e ∧ w' = w) := bytes19 hs ao len cap o a t x y w hm h
  have c13 : Hid (Calls Try.prog 13 #[.slice ao len cap] w fun e w' => RetBool e ∧ ∃ k, w' = w.drewN k) := mbytes ao len cap w hm h
  have H : Hid (MIn w ao len M ∧ (ao = none → len = 0 ∧ cap = 0)) := ⟨h, hnil⟩
  clear h hm hnil
  go_enter Try.func6, Try.ntmps6
  go_wp2_with fail
  refine c19.out.mono ?_
  rintro e w' ⟨⟨r, rfl⟩, rfl⟩
  cases r
  · go_wp2
    go_ret
    exact ⟨rfl, Below.refl _ _⟩
  go_wp2_with fail
  refine c13.out.mono ?_
  rintro e w1 ⟨⟨r, rfl⟩, m, rfl⟩
  cases r
  · go_wp2
    go_ret
    exact ⟨rfl, below_drewN (Below.refl _ _) _⟩
  have HM1 : Hid (MIn (w'.drewN m) ao len M) := H.out.1.below (below_drewN (Below.refl _ _) m)
  clear c19 c13
  go_wp2_with fail
  refine (buildSel_all hs o a t HM1.out (by omega) H.out.2).mono ?_
  rintro e w1 ⟨p, rfl, hS1⟩
  have HB1 : Hid (Below w'.heap.size w' w1) := (below_drewN (Below.refl _ _) m).trans hS1.out.2
  have HS1 : Hid (SelO hs w1 p len M) := hS1.out.1
  clear hS1 HM1
  go_wp2_with fail
  refine (zzabs_all x HS1.out (by omega)).mono ?_
  rintro e w2 ⟨S, rfl, hO⟩
  obtain ⟨so', n', cap', r', hE, hO2⟩ := hO.out
  have HE : Hid (AbsR hs M len w1 w2 so' n' r' ∧ One w2 S so' n' cap' x) := ⟨hE, hO2⟩
  have HB2 : Hid (Below w'.heap.size w' w2) := HB1.out.trans (hE.2.2.2.1.mono HB1.out.size)
  have hn' : n' ≤ len := hE.1
  clear hO hE hO2
  have HM2 : Hid (MIn w2 ao len M) := H.out.1.below HB2.out
  obtain ⟨_, s0, s1, s2, s3⟩ := HE.out.2
  clear HS1 HB1
  have hfl : (FloatKind.f64.format.order 4607182418800017408 4607182418800017408 != some Ordering.eq) = false := one_eq
  go_wp2_with fail
  clear s0 s1 s2 s3
  go_loopw [69] (fun z wr => ∃ k : Nat, k ≤ n' ∧ z = .int .i64 k ∧ Hid (Below w2.heap.size w2 wr)) (fun z _ => n' - (intOf z).toNat)
  case atStart => exact ⟨0, Nat.zero_le _, rfl, Below.refl _ _⟩
  case round =>
    obtain ⟨k, hk, rfl, hB⟩ := hrel
    have HB : Hid (Below w2.heap.size w2 wr) := hB
    clear hB
    by_cases hlt : k < n'
    · have hlt' : (k : Int) < n' := by omega
      obtain ⟨A, rfl, _, a0, a1⟩ := (HE.out.1.2.1.below HB.out) k hlt
      obtain ⟨rfl, hv, hN, q, hq, he, hn, hvq⟩ := HE.out.1.known hlt
      have HQ : Hid ((M q).eq = true ∧ (M q).nm = (r' k).1 ∧ (M q).vl = (r' k).2) := ⟨he, hn, hvq⟩
      have hve : (r' k).2.toList.isEmpty = false := by simpa using hv
      rw [bName_list] at hN
      clear hv he hn hvq
      have HK : Hid (∀ d, MIn (wr.drewN d) ao len M) := fun d => HM2.out.below (below_drewN HB.out d)
      have HW : Hid (∀ d w3, Below (wr.drewN d).heap.size (wr.drewN d) w3 → Below w2.heap.size w2 w3) := fun d w3 h => (below_drewN HB.out d).trans (h.mono HB.out.size)
      by_cases hz : k = 0
      · subst hz
        have qz : decide ((0 : Int) < 0) = false := by simp
        simp only [Nat.zero_mul, Nat.zero_add] at a0 a1
        go_wp2_with fail
        go_quiet (fail)
        go_wp2_with fail
        refine (backed_any (HK.out nq) hl hq HQ.out.1 HQ.out.2.1 HQ.out.2.2).mono ?_
        rintro e w3 ⟨rfl, hb3⟩
        have HW3 : Hid (Below w2.heap.size w2 w3) := HW.out _ _ hb3
        clear hb3
        go_wp2_with fail
        go_roundw
        case rel => exact ⟨1, by omega, by go_num, HW3.out⟩
        case measure => simp [intOf]; omega
      · obtain ⟨j, rfl⟩ : ∃ j, k = j + 1 := ⟨k - 1, by omega⟩
        obtain ⟨A2, e2, _, b0, _⟩ := (HE.out.1.2.1.below HB.out) j (by omega)
        injection e2 with e2
        injection e2 with e2
        subst e2
        have hless : Op.bytesLess (r' j).1.toList (r' (j + 1)).1.toList = true := HE.out.1.2.2.1 j (j + 1) (Nat.zero_le _) (by omega) hlt
        have qz : decide ((0 : Int) < ((j + 1 : Nat) : Int)) = true := by simp
        have q2 : (j : Int) < n' := by omega
        go_wp2_with fail
        go_quiet (fail)
        go_wp2_with fail
        refine (backed_any (HK.out nq) hl hq HQ.out.1 HQ.out.2.1 HQ.out.2.2).mono ?_
        rintro e w3 ⟨rfl, hb3⟩
        have HW3 : Hid (Below w2.heap.size w2 w3) := HW.out _ _ hb3
        clear hb3
        go_wp2_with fail
        go_roundw
        case rel => exact ⟨j + 1 + 1, by omega, by go_num, HW3.out⟩
        case measure => simp [intOf]; omega
    · obtain rfl : k = n' := by omega
      have hmk : ∀ W : World, (Instr.makeSlice 48 (.int .i64 0) (.int .i64 ((k : Int) + (len : Int)))).run Try.prog W = .ok (.slice (some ⟨W.heap.size, 0, none⟩) 0 (k + len)) (W.alloc (.cells (madeCells #[.pointer none] (k + len)) 49)) := fun W => by
        have := make48c (k + len) (by omega) W
        rw [Int.natCast_add] at this
        exact this
      generalize wr = W1 at *
      have HL : Hid (LabRow W1 so' k r' ∧ SP.Sorted ltN 0 k r' ∧ (∀ j, j < k → ((r' j).2.toList ≠ [] ∧ ((r' j).1.toList == bName.toList) = false) ∧ ((lm (r' j)).nm.size ≤ maxLen ∧ (lm (r' j)).vl.size ≤ maxLen)) ∧ Below w'.heap.size w' W1 ∧ MIn W1 ao len M) := by
        refine ⟨HE.out.1.2.1.below HB.out, HE.out.1.2.2.1, fun j hj => ?_, HB2.out.trans (HB.out.mono HB2.out.size), HM2.out.below HB.out⟩
        obtain ⟨_, h2, h3, q, hq, _, h5, h6⟩ := HE.out.1.known hj
        have h7 := H.out.1.sizes q hq
        rw [h5, h6] at h7
        exact ⟨⟨h2, h3⟩, h7⟩
      clear HE HB HB2 HM2
      go_wp2_with fail
      clear hmk
      go_loopw [18, 19] (fun u z wr => ∃ (i q : Nat) (d : Int), i + q ≤ k ∧ k ≤ i + q ∧ u = .slice (some ⟨W1.heap.size, 0, none⟩) i (k + len) ∧ z = .int .i64 d ∧ d = (q : Int) - 1 ∧ Hid (∃ l, Ps W1 wr (k + len) i l ∧ (∀ m ∈ l, ∃ j, j < k ∧ m = lm (r' j)) ∧ ∀ j, q ≤ j → j < k → lm (r' j) ∈ l)) (fun _ z _ => (intOf z + 1).toNat)
      case atStart => exact ⟨0, k, _, by omega, by omega, rfl, rfl, by go_num, [], ⟨rfl, Mk.made, (Below.refl _ _).alloc (Nat.le_refl _) _, fun m hm => (by cases hm)⟩, fun m hm => (by cases hm), fun j h1 h2 => by omega⟩
      case round =>
        obtain ⟨i, q, d, hi1, hi2, rfl, rfl, hd, l, hP, hl1, hl2⟩ := hrel
        have HP : Hid (Ps W1 wr (k + len) i l ∧ (∀ m ∈ l, ∃ j, j < k ∧ m = lm (r' j)) ∧ ∀ j, q ≤ j → j < k → lm (r' j) ∈ l) := ⟨hP, hl1, hl2⟩
        clear hP hl1 hl2
        by_cases hq0 : q = 0
        · subst hq0
          obtain rfl : d = -1 := by omega
          clear hd
          have HQ : Hid (∃ l, Ps W1 wr (k + len) i l ∧ (∀ m ∈ l, m.eq = true → ∃ j, j < k ∧ m = lm (r' j)) ∧ ∀ j, j < k → lm (r' j) ∈ l) := ⟨l, HP.out.1, fun m hm _ => HP.out.2.1 m hm, fun j hj => HP.out.2.2 j (Nat.zero_le _) hj⟩
          clear HP
          go_wp2_with fail
          go_loopw [18, 145] (fun u z wr => ∃ i c : Nat, c ≤ len ∧ i ≤ k + c ∧ u = .slice (some ⟨W1.heap.size, 0, none⟩) i (k + len) ∧ z = .int .i64 c ∧ Hid (∃ l, Ps W1 wr (k + len) i l ∧ (∀ m ∈ l, m.eq = true → ∃ j, j < k ∧ m = lm (r' j)) ∧ ∀ j, j < k → lm (r' j) ∈ l)) (fun _ z _ => len - (intOf z).toNat)
          case atStart => exact ⟨i, 0, Nat.zero_le _, by omega, rfl, rfl, HQ.out⟩
          case round =>
            clear HQ hi1 hi2
            obtain ⟨g, c, hc, hgc, rfl, rfl, l, hP, hl1, hl2⟩ := hrel
            have HP : Hid (Ps W1 wr (k + len) g l ∧ (∀ m ∈ l, m.eq = true → ∃ j, j < k ∧ m = lm (r' j)) ∧ ∀ j, j < k → lm (r' j) ∈ l) := ⟨hP, hl1, hl2⟩
            clear hP hl1 hl2
            by_cases hcl : c < len
            · have hcl' : (c : Int) < len := by omega
              obtain ⟨⟨t2, s2, v2⟩, hm2⟩ : ∃ m, M c = m := ⟨_, rfl⟩
              have HM2 : Hid (M c = ⟨t2, s2, v2⟩) := hm2
              clear hm2
              have HI : Hid (MIn wr ao len M) := HL.out.2.2.2.2.below HP.out.1.bel
              rcases HI.out with hz | ⟨b, off, rfl, hb, hcells⟩
              · omega
              clear hcells
              obtain ⟨_, _, _, c0, c1, c2⟩ := HI.out.ext (Below.refl _ _) hcl HM2.out
              go_wp2_with fail
              refine (isEq_any ⟨t2, s2, v2⟩ wr).mono ?_
              rintro e w3 ⟨rfl, hb3⟩
              have HP3 : Hid (Ps W1 w3 (k + len) g l) := HP.out.1.below hb3
              obtain ⟨_, _, _, d0, d1, d2⟩ := HI.out.ext hb3 hcl HM2.out
              clear hb3 c0 c1 c2
              cases heq : Mtc.eq ⟨t2, s2, v2⟩
              · have hgC : g < k + len := by omega
                have HX : Hid (∀ W : World, W.heap = (twoNew w3 ⟨t2, s2, v2⟩).heap → (∀ j u, [Value.pointer (some ⟨w3.heap.size, 0, none⟩)][j]? = some u → W.cell? ((⟨w3.heap.size + 1, 0, none⟩ : Addr).add j) = some u) ∧
                  (∀ j, j < [Value.pointer (some ⟨w3.heap.size, 0, none⟩)].length → (W.cell? ⟨W1.heap.size, 0 + g * 1 + j, none⟩).isSome = true ∧ W.frozen? ⟨W1.heap.size, 0 + g * 1 + j, none⟩ = false)) := HP3.out.facts hgC ⟨t2, s2, v2⟩
                have HN : Hid (Ps W1 ((twoNew w3 ⟨t2, s2, v2⟩).drew.setCells W1.heap.size g [.pointer (some ⟨w3.heap.size, 0, none⟩)]) (k + len) (g + 1) (l ++ [⟨t2, s2, v2⟩]) ∧ (∀ m ∈ l ++ [⟨t2, s2, v2⟩], m.eq = true → ∃ j, j < k ∧ m = lm (r' j)) ∧ ∀ j, j < k → lm (r' j) ∈ l ++ [⟨t2, s2, v2⟩]) := by
                  refine ⟨HP3.out.laid hgC (by have := HI.out.sizes c hcl; rw [HM2.out] at this; exact this), fun m hm he => ?_, fun j hj => List.mem_append_left _ (HP.out.2.2 j hj)⟩
                  rcases List.mem_append.1 hm with c | c
                  · exact HP.out.2.1 m c he
                  · rw [List.mem_singleton] at c; subst c; rw [heq] at he; cases he
                have HO : Hid (∀ u ∈ [Value.pointer (some ⟨w3.heap.size, 0, none⟩)], u.oneCell' = true) := fun u hu => by simp at hu; subst hu; rfl
                obtain ⟨i0, hi0, hz0, hz1, hz2⟩ := info_parts Try.info49
                go_wp2_with fail
                go_region_law (refine step_append_room rfl (.tmp 154) (.tmp 172) 48 rfl 49 i0 1 Try.underlying48 hi0 hz1 W1.heap.size 0 g (k + len) (by simp [Act.eval]) ⟨w3.heap.size + 1, 0, none⟩ 1 1 [Value.pointer (some ⟨w3.heap.size, 0, none⟩)] (by simp [Act.eval]) rfl (HX.out _ rfl).1 HO.out hgC (HX.out _ rfl).2 ?_)
                all_goals
                  go_wp2_with fail
                  go_roundw
                  case rel => exact ⟨g + 1, c + 1, by omega, by omega, rfl, by go_num, _, HN.out⟩
                  case measure => simp [intOf]; omega
              · go_wp2_with fail
                go_roundw
                case rel => exact ⟨g, c + 1, by omega, by omega, rfl, by go_num, _, HP3.out, HP.out.2⟩
                case measure => simp [intOf]; omega
            · obtain rfl : c = len := by omega
              have HZ : Hid (Mat wr (some ⟨W1.heap.size, 0, none⟩) g (gm l)) := HP.out.1.rows.mats (fun i hi => HP.out.1.size _ (gm_mem.2 ⟨i, by rw [HP.out.1.len]; exact hi, rfl⟩))
              go_wp2_with fail
              refine (zz22 _ _ _ _ _ _ _).mono ?_
              rintro e w4 ⟨rfl, rfl⟩
              have HS : Hid (SelO true (wr.alloc (.cells #[.slice (some ⟨W1.heap.size, 0, none⟩) g (k + c), .int .i64 o, .int .i64 a, .int .i64 t] 65)) (some ⟨wr.heap.size, 0, none⟩) g (gm l)) := Or.inl ⟨rfl, _, rfl, Sel.made HZ.out _ _ _ _⟩
              go_wp2_with fail
              refine (zzabs_all y HS.out (by omega)).mono ?_
              rintro e w5 ⟨S2, rfl, hO⟩
              obtain ⟨so3, n3, cap3, r3, hE, hO2⟩ := hO.out
              have HF : Hid (n3 = k ∧ LabRow w5 so3 k r' ∧ LabRow w5 so' k r' ∧ Below w'.heap.size w' w5) := by
                obtain ⟨a1, a2, a3, a4, a5⟩ := hE
                obtain ⟨b1, b2, b3, b4, _⟩ := HL.out
                have hlen : g = l.length := HP.out.1.len.symm
                rw [hlen] at a5
                have hm : ∀ s v, (∃ j, j < n3 ∧ r3 j = (s, v)) ↔ ∃ j, j < k ∧ r' j = (s, v) := fun s v => by
                  rw [a5, ← back_again b2 (fun j hj => (b3 j hj).1) HP.out.2.1 HP.out.2.2]
                  exact ⟨fun h => h.2, fun h => ⟨rfl, h⟩⟩
                obtain ⟨e1, e2⟩ := sorted_same a3 b2 (fun j hj => by
                  obtain ⟨q, hq, e⟩ := (hm (r3 j).1 (r3 j).2).1 ⟨j, hj, rfl⟩; exact ⟨q, hq, e⟩) (fun j hj => by
                  obtain ⟨q, hq, e⟩ := (hm (r' j).1 (r' j).2).2 ⟨j, hj, rfl⟩; exact ⟨q, hq, e⟩)
                have hb5 : Below W1.heap.size W1 w5 := (HP.out.1.bel.alloc HP.out.1.bel.size _).trans (a4.mono (by have := HP.out.1.bel.size; simp; omega))
                refine ⟨e1, fun i hi => ?_, b1.below hb5, b4.trans (hb5.mono b4.size)⟩
                rw [← e2 i (by omega)]; exact a2 i (by omega)
              obtain rfl := HF.out.1
              obtain ⟨_, s0, s1, s2, s3⟩ := hO2
              clear hO hE s3
              go_wp2_with fail
              refine (same23 HF.out.2.1 HF.out.2.2.1 (by omega)).mono ?_
              rintro e w6 ⟨rfl, k6, rfl⟩
              go_wp2
              go_ret
              exact ⟨rfl, below_drewN HF.out.2.2.2 _⟩
        · obtain ⟨j, rfl⟩ : ∃ j, q = j + 1 := ⟨q - 1, by omega⟩
          obtain rfl : d = (j : Int) := by omega
          clear hd
          have q2 : (j : Int) < k := by omega
          obtain ⟨A, rfl, _, a0, a1⟩ := (HL.out.1.below HP.out.1.bel) j (by omega)
          have hiC : i < k + len := by omega
          have HX : Hid (∀ W : World, W.heap = (twoNew wr (lm (r' j))).heap → (∀ j u, [Value.pointer (some ⟨wr.heap.size, 0, none⟩)][j]? = some u → W.cell? ((⟨wr.heap.size + 1, 0, none⟩ : Addr).add j) = some u) ∧
            (∀ j, j < [Value.pointer (some ⟨wr.heap.size, 0, none⟩)].length → (W.cell? ⟨W1.heap.size, 0 + i * 1 + j, none⟩).isSome = true ∧ W.frozen? ⟨W1.heap.size, 0 + i * 1 + j, none⟩ = false)) := HP.out.1.facts hiC (lm (r' j))
          have HN : Hid (Ps W1 ((twoNew wr (lm (r' j))).drew.setCells W1.heap.size i [.pointer (some ⟨wr.heap.size, 0, none⟩)]) (k + len) (i + 1) (l ++ [lm (r' j)]) ∧ (∀ m ∈ l ++ [lm (r' j)], ∃ j, j < k ∧ m = lm (r' j)) ∧ ∀ j2, j ≤ j2 → j2 < k → lm (r' j2) ∈ l ++ [lm (r' j)]) := by
            refine ⟨HP.out.1.laid hiC (HL.out.2.2.1 j (by omega)).2, fun m hm => ?_, fun j2 h1 h2 => ?_⟩
            · rcases List.mem_append.1 hm with c | c
              · exact HP.out.2.1 m c
              · rw [List.mem_singleton] at c; exact ⟨j, by omega, c⟩
            · by_cases c : j2 = j
              · subst c; simp
              · exact List.mem_append_left _ (HP.out.2.2 j2 (by omega) h2)
          have HO : Hid (∀ u ∈ [Value.pointer (some ⟨wr.heap.size, 0, none⟩)], u.oneCell' = true) := fun u hu => by simp at hu; subst hu; rfl
          obtain ⟨i0, hi0, hz0, hz1, hz2⟩ := info_parts Try.info49
          go_wp2_with fail
          go_region_law (refine step_append_room rfl (.tmp 128) (.tmp 141) 48 rfl 49 i0 1 Try.underlying48 hi0 hz1 W1.heap.size 0 i (k + len) (by simp [Act.eval]) ⟨wr.heap.size + 1, 0, none⟩ 1 1 [Value.pointer (some ⟨wr.heap.size, 0, none⟩)] (by simp [Act.eval]) rfl (HX.out _ rfl).1 HO.out hiC (HX.out _ rfl).2 ?_)
          all_goals
            go_wp2_with fail
            go_roundw
            case rel => exact ⟨i + 1, j, _, by omega, by omega, rfl, rfl, rfl, _, HN.out⟩
            case measure => simp [intOf]

theorem f6_any (hs : Bool) (ao : Option Addr) (len cap : Nat) (o a t x y : Int) (w : World) (hm : len ≤ maxLen) {M : Nat → Mtc} (h : MIn w ao len M) (hnil : ao = none → len = 0 ∧ cap = 0) :
    Calls Try.prog 6 #[.bool hs, .slice ao len cap, .int .i64 o, .int .i64 a, .int .i64 t, .int .i64 x, .int .i64 y] w fun e w' => e = .returned (.bool true) ∧ Below w.heap.size w w' := by
  by_cases hl : 4096 < len
  · exact f6_long hs ao len cap o a t x y w hm hl h
  · exact f6_main hs ao len cap o a t x y w hm (by omega) h hnil
end Go.Proofs.Qxb6615577a
