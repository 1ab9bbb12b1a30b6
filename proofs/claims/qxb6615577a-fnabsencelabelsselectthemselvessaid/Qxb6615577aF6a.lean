/- backedByEquality (20), sameLabelSets (23), what the second law's road needs besides. -/
import Derived.Test.Qxb6615577aF5
import Derived.Deep.RegionLaw
namespace Go.Proofs.Qxb6615577a
open Go.RowKit

set_option maxRecDepth 10000 in
set_option maxHeartbeats 4000000 in
theorem backed_any {w : World} {ao : Option Addr} {len cap : Nat} {M : Nat → Mtc} {s v : ByteArray} (h : MIn w ao len M) (hl : len ≤ 4096) {q : Nat} (hq : q < len) (he : (M q).eq = true) (hn : (M q).nm = s) (hv : (M q).vl = v) :
    Calls Try.prog 20 #[.slice ao len cap, .agg #[.string s, .string v]] w fun e w' => e = .returned (.bool true) ∧ Below w.heap.size w w' := by
  rcases h with hz | ⟨b, off, rfl, hb, hc⟩
  · omega
  have H : Hid (MIn w (some ⟨b, off, none⟩) len M) := Or.inr ⟨b, off, rfl, hb, hc⟩
  have HQ : Hid ((M q).eq = true ∧ (M q).nm = s ∧ (M q).vl = v) := ⟨he, hn, hv⟩
  clear hc he hn hv
  go_enter Try.func20, Try.ntmps20
  go_wp2_with fail
  go_loopw [8] (fun y wr => ∃ k : Nat, k ≤ q ∧ y = .int .i64 k ∧ Hid (Below (w.heap.size + 1) (w.alloc (.cells #[.string s, .string v] 31)) wr)) (fun y _ => len - (intOf y).toNat)
  case atStart => exact ⟨0, Nat.zero_le _, rfl, Below.refl _ _⟩
  case round =>
    obtain ⟨k, hk, rfl, hB⟩ := hrel
    have HB : Hid (Below (w.heap.size + 1) (w.alloc (.cells #[.string s, .string v] 31)) wr) := hB
    clear hB
    have HBw : Hid (Below w.heap.size w wr) := ((Below.refl _ _).alloc (Nat.le_refl _) _).trans (HB.out.mono (by omega))
    have hlt' : (k : Int) < len := by omega
    obtain ⟨⟨t2, s2, v2⟩, hm2⟩ : ∃ m, M k = m := ⟨_, rfl⟩
    have HM2 : Hid (M k = ⟨t2, s2, v2⟩) := hm2
    clear hm2
    obtain ⟨x0, x1, x2, _, _, _⟩ := H.out.ext HBw.out (i := k) (by omega) HM2.out
    have HX : Hid (∀ x : ExtW wr, Below (w.heap.size + 1) (w.alloc (.cells #[.string s, .string v] 31)) x.w) := fun x => HB.out.trans (x.h.mono (by have := HB.out.size; simp at this; omega))
    have y0 : ∀ x : ExtW wr, x.w.cell? ⟨w.heap.size, 0, none⟩ = some (.string s) := fun x => by rw [(HX.out x).cell (p := ⟨w.heap.size, 0, none⟩) (by show w.heap.size < w.heap.size + 1; omega)]; simp
    have y1 : ∀ x : ExtW wr, x.w.cell? ⟨w.heap.size, 1, none⟩ = some (.string v) := fun x => by rw [(HX.out x).cell (p := ⟨w.heap.size, 1, none⟩) (by show w.heap.size < w.heap.size + 1; omega)]; simp
    have HY : Hid (∀ x : ExtW wr, Below w.heap.size w x.w) := fun x => HBw.out.trans (x.h.mono HBw.out.size)
    have HK : Hid (k = q → Mtc.eq ⟨t2, s2, v2⟩ = true ∧ s2 = s ∧ v2 = v) := by
      intro e; subst e
      have h1 := HQ.out
      rw [HM2.out] at h1
      exact h1
    cases heq2 : Mtc.eq ⟨t2, s2, v2⟩
    · have hkq : k < q := by
        rcases Nat.lt_or_ge k q with c | c
        · exact c
        · have := (HK.out (by omega)).1; rw [heq2] at this; cases this
      go_wp2_with fail
      refine wp_region_ext (by kernel_rfl) (by kernel_rfl) ?_
      repeat (go_big_quiet_step (exact isEq_ext heq2 _))
      refine wpQuiet_nil ?_
      intro _ hw'
      obtain ⟨x, hw''⟩ := hw'
      subst hw''
      go_wp2_with fail
      go_roundw
      case rel => exact ⟨k + 1, by omega, by go_num, HX.out x⟩
      case measure => simp [intOf]; omega
    · cases hnn : (s2.toList == s.toList)
      · have hkq : k < q := by
          rcases Nat.lt_or_ge k q with c | c
          · exact c
          · have := (HK.out (by omega)).2.1; subst this; simp at hnn
        go_wp2_with fail
        refine wp_region_ext (by kernel_rfl) (by kernel_rfl) ?_
        repeat (go_big_quiet_step (exact isEq_ext heq2 _))
        refine wpQuiet_nil ?_
        intro _ hw'
        obtain ⟨x, hw''⟩ := hw'
        subst hw''
        go_wp2_with fail
        go_roundw
        case rel => exact ⟨k + 1, by omega, by go_num, HX.out x⟩
        case measure => simp [intOf]; omega
      · cases hvv : (v2.toList == v.toList)
        · have hkq : k < q := by
            rcases Nat.lt_or_ge k q with c | c
            · exact c
            · have := (HK.out (by omega)).2.2; subst this; simp at hvv
          go_wp2_with fail
          refine wp_region_ext (by kernel_rfl) (by kernel_rfl) ?_
          repeat (go_big_quiet_step (exact isEq_ext heq2 _))
          refine wpQuiet_nil ?_
          intro _ hw'
          obtain ⟨x, hw''⟩ := hw'
          subst hw''
          go_wp2_with fail
          go_roundw
          case rel => exact ⟨k + 1, by omega, by go_num, HX.out x⟩
          case measure => simp [intOf]; omega
        · go_wp2_with fail
          refine wp_region_ext (by kernel_rfl) (by kernel_rfl) ?_
          repeat (go_big_quiet_step (exact isEq_ext heq2 _))
          refine wpQuiet_nil ?_
          intro _ hw'
          obtain ⟨x, hw''⟩ := hw'
          subst hw''
          go_wp2
          go_ret
          exact ⟨rfl, HY.out x⟩

set_option maxRecDepth 10000 in
set_option maxHeartbeats 1000000 in
theorem same23 {w : World} {so to : Option Addr} {n c1 c2 : Nat} {r : Nat → Lab} (h1 : LabRow w so n r) (h2 : LabRow w to n r) (hn : n ≤ 1048576) :
    Calls Try.prog 23 #[.slice so n c1, .slice to n c2] w fun e w' => e = .returned (.bool true) ∧ ∃ k, w' = w.drewN k := by
  have H : Hid (LabRow w so n r ∧ LabRow w to n r) := ⟨h1, h2⟩
  clear h1 h2
  go_enter Try.func23, Try.ntmps23
  go_wp2_with fail
  go_loopw [13] (fun y wr => ∃ i m : Nat, i ≤ n ∧ y = .int .i64 i ∧ wr = w.drewN m) (fun y _ => n - (intOf y).toNat)
  case atStart => exact ⟨0, 0, Nat.zero_le _, rfl, rfl⟩
  case round =>
    obtain ⟨i, m, hi, rfl, rfl⟩ := hrel
    by_cases hlt : i < n
    · have hlt' : (i : Int) < n := by omega
      obtain ⟨A, rfl, _, a0, a1⟩ := H.out.1 i hlt
      obtain ⟨B, rfl, _, b0, b1⟩ := H.out.2 i hlt
      go_wp2_with fail
      go_quiet (fail)
      go_wp2_with fail
      go_roundw
      case rel => exact ⟨i + 1, _, by omega, by go_num, rfl⟩
      case measure => simp [intOf]; omega
    · go_wp2
      go_ret
      exact ⟨rfl, _, rfl⟩

/-- The selector, or none. -/
def SelO (hs : Bool) (w : World) (p : Option Addr) (n : Nat) (M : Nat → Mtc) : Prop := (hs = true ∧ ∃ B, p = some ⟨B, 0, none⟩ ∧ Sel w B n M) ∨ (hs = false ∧ p = none)
theorem buildSel_all {w : World} {ao : Option Addr} {len cap : Nat} {M : Nat → Mtc} (hs : Bool) (o a t : Int) (h : MIn w ao len M) (hl : len ≤ 1048576) (hnil : ao = none → len = 0 ∧ cap = 0) :
    Calls Try.prog 14 #[.bool hs, .slice ao len cap, .int .i64 o, .int .i64 a, .int .i64 t] w fun e w' => ∃ p, e = .returned (.pointer p) ∧ Hid (SelO hs w' p len M ∧ Below w.heap.size w w') := by
  cases hs
  · refine (buildSel_no o a t).mono ?_
    rintro e w' ⟨rfl, rfl⟩
    exact ⟨none, rfl, Or.inr ⟨rfl, rfl⟩, Below.refl _ _⟩
  · refine (buildSel_any o a t h hl hnil).mono ?_
    rintro e w' ⟨B, rfl, hS⟩
    exact ⟨_, rfl, Or.inl ⟨rfl, B, rfl, hS.out.1⟩, hS.out.2⟩

/-- What absence hands back, with a selector or without. -/
def AbsR (hs : Bool) (M : Nat → Mtc) (len : Nat) (w w' : World) (so' : Option Addr) (n' : Nat) (r' : Nat → Lab) : Prop :=
  n' ≤ len ∧ LabRow w' so' n' r' ∧ SP.Sorted ltN 0 n' r' ∧ Below w.heap.size w w' ∧ ∀ s v, (∃ j, j < n' ∧ r' j = (s, v)) ↔ hs = true ∧ v.toList ≠ [] ∧ Fixd M len s v
theorem zzabs_all {hs : Bool} {w : World} {p : Option Addr} {n : Nat} {M : Nat → Mtc} (t : Int) (h : SelO hs w p n M) (hn : n ≤ 1048576) :
    Calls Try.prog 15 #[.pointer p, .int .i64 t] w fun e w' => ∃ S, e = .returned (.slice (some ⟨S, 0, none⟩) 1 1) ∧ Hid (∃ so' n' cap' r', AbsR hs M n w w' so' n' r' ∧ One w' S so' n' cap' t) := by
  rcases h with ⟨rfl, B, rfl, hS⟩ | ⟨rfl, rfl⟩
  · refine (zzabs_any t hS hn).mono ?_
    rintro e w' ⟨S, rfl, hR⟩
    obtain ⟨so', n', cap', r', ⟨a1, a2, a3, a4, a5⟩, h2⟩ := hR.out
    exact ⟨S, rfl, so', n', cap', r', ⟨a1, a2, a3, a4, fun s v => (a5 s v).trans ⟨fun h => ⟨rfl, h⟩, fun h => h.2⟩⟩, h2⟩
  · refine (zzabs_nil w t).mono ?_
    rintro e w' ⟨S, rfl, hR⟩
    exact ⟨S, rfl, none, 0, 0, fun _ => (ByteArray.empty, ByteArray.empty), ⟨Nat.zero_le _, fun i hi => by omega, SP.Sorted.of_le_one _ (by omega), hR.out.1, fun s v => ⟨fun ⟨j, hj, _⟩ => by omega, fun h => by cases h.1⟩⟩, hR.out.2⟩

/-- What is known of each label of the row. -/
theorem AbsR.known {hs : Bool} {M : Nat → Mtc} {len : Nat} {w w' : World} {so' : Option Addr} {n' : Nat} {r' : Nat → Lab} (h : AbsR hs M len w w' so' n' r') {j : Nat} (hj : j < n') :
    hs = true ∧ (r' j).2.toList ≠ [] ∧ ((r' j).1.toList == bName.toList) = false ∧ ∃ q, q < len ∧ (M q).eq = true ∧ (M q).nm = (r' j).1 ∧ (M q).vl = (r' j).2 := by
  obtain ⟨h1, h2, h3⟩ := (h.2.2.2.2 (r' j).1 (r' j).2).1 ⟨j, hj, rfl⟩
  obtain ⟨q, hq, he, hn⟩ := h3.1
  refine ⟨h1, h2, ?_, q, hq, he, hn, h3.2 q hq he hn⟩
  unfold Mtc.eq at he
  rw [hn] at he
  simp at he
  simpa using he.2

/-- The matchers that the law writes back. -/
def gm (l : List Mtc) (i : Nat) : Mtc := l.getD i ⟨0, ByteArray.empty, ByteArray.empty⟩
def lm (x : Lab) : Mtc := ⟨0, x.1, x.2⟩
theorem gm_mem {l : List Mtc} {m : Mtc} : m ∈ l ↔ ∃ i, i < l.length ∧ gm l i = m := by
  rw [List.mem_iff_getElem]
  constructor
  · rintro ⟨i, hi, e⟩; exact ⟨i, hi, by rw [← e]; simp [gm, List.getD, List.getElem?_eq_getElem hi]⟩
  · rintro ⟨i, hi, e⟩; exact ⟨i, hi, by rw [← e]; simp [gm, List.getD, List.getElem?_eq_getElem hi]⟩

theorem back_again {n' : Nat} {r' : Nat → Lab} {l : List Mtc} (hs : SP.Sorted ltN 0 n' r') (hv : ∀ j, j < n' → (r' j).2.toList ≠ [] ∧ ((r' j).1.toList == bName.toList) = false) (h1 : ∀ m ∈ l, m.eq = true → ∃ j, j < n' ∧ m = lm (r' j)) (h2 : ∀ j, j < n' → lm (r' j) ∈ l) (s v : ByteArray) :
    (v.toList ≠ [] ∧ Fixd (gm l) l.length s v) ↔ ∃ j, j < n' ∧ r' j = (s, v) := by
  constructor
  · rintro ⟨_, ⟨i, hi, he, hn⟩, hall⟩
    obtain ⟨j, hj, e⟩ := h1 _ (gm_mem.2 ⟨i, hi, rfl⟩) he
    have hvl := hall i hi he hn
    rw [e] at hn hvl
    exact ⟨j, hj, Prod.ext hn hvl⟩
  · rintro ⟨j, hj, e⟩
    obtain ⟨i, hi, em⟩ := gm_mem.1 (h2 j hj)
    have hvj := hv j hj
    rw [e] at hvj
    have heq : (lm (r' j)).eq = true := by
      rw [e]; unfold Mtc.eq lm
      rw [hvj.2]; rfl
    refine ⟨hvj.1, ⟨i, hi, by rw [em]; exact heq, by rw [em, e]; rfl⟩, fun i2 hi2 he2 hn2 => ?_⟩
    obtain ⟨j2, hj2, e2⟩ := h1 _ (gm_mem.2 ⟨i2, hi2, rfl⟩) he2
    rw [e2] at hn2 ⊢
    have hn3 : (r' j2).1 = (r' j).1 := by rw [e]; exact hn2
    have : j2 = j := by
      rcases Nat.lt_trichotomy j2 j with c | c | c
      · have := hs j2 j (Nat.zero_le _) c hj
        unfold ltN at this; rw [hn3, bl_irr] at this; cases this
      · exact c
      · have := hs j j2 (Nat.zero_le _) c hj2
        unfold ltN at this; rw [hn3, bl_irr] at this; cases this
    subst this
    rw [e]; rfl

theorem Mk.push {wr : World} {P C : Nat} {l : List Mtc} {m : Mtc} (h : Mk wr P C l.length (gm l)) (hk : l.length < C) : Mk (((wr.alloc (.cells (mCells m) 53)).alloc (.cells #[.pointer (some ⟨wr.heap.size, 0, none⟩)] 49)).setCell ⟨P, l.length, none⟩ (.pointer (some ⟨wr.heap.size, 0, none⟩))) P C (l ++ [m]).length (gm (l ++ [m])) := by
  have hlt := h.lt
  obtain ⟨c, hc, hs, hr⟩ := h
  have he : ((wr.alloc (.cells (mCells m) 53)).alloc (.cells #[.pointer (some ⟨wr.heap.size, 0, none⟩)] 49)).heap[P]? = some (.cells c 49 (0, 0)) := (Below.heap_alloc _ _ _ (by simp; omega)).trans ((Below.heap_alloc _ _ _ hlt).trans hc)
  have other : ∀ q o, q ≠ P → (((wr.alloc (.cells (mCells m) 53)).alloc (.cells #[.pointer (some ⟨wr.heap.size, 0, none⟩)] 49)).setCell ⟨P, l.length, none⟩ (.pointer (some ⟨wr.heap.size, 0, none⟩))).cell? ⟨q, o, none⟩ = ((wr.alloc (.cells (mCells m) 53)).alloc (.cells #[.pointer (some ⟨wr.heap.size, 0, none⟩)] 49)).cell? ⟨q, o, none⟩ := fun q o hq => World.cell?_of_block (Below.heap_setCell _ _ _ _ hq)
  have two : ∀ q o, q < wr.heap.size + 1 → ((wr.alloc (.cells (mCells m) 53)).alloc (.cells #[.pointer (some ⟨wr.heap.size, 0, none⟩)] 49)).cell? ⟨q, o, none⟩ = (wr.alloc (.cells (mCells m) 53)).cell? ⟨q, o, none⟩ := fun q o hq => World.cell?_of_block (Below.heap_alloc _ _ _ (by simpa using hq))
  refine ⟨_, heap_setCell_same _ P l.length c 49 _ he, by simpa using hs, fun i hi => ?_⟩
  by_cases e : i = l.length
  · subst e
    have eg : gm (l ++ [m]) l.length = m := by simp [gm, List.getD]
    refine ⟨wr.heap.size, hlt, by simp [World.setCell]; omega, ?_, ?_, ?_, ?_⟩
    · simp [hs, hk]
    all_goals
      rw [other _ _ (by omega), two _ _ (by omega), eg]
      simp [mCells]
  · have hi' : i < l.length := by simp at hi; omega
    obtain ⟨q, h1, h2, h3, h4, h5, h6⟩ := hr i hi'
    have eg : gm (l ++ [m]) i = gm l i := by simp [gm, List.getD, List.getElem?_append_left hi']
    refine ⟨q, h1, by simp [World.setCell]; omega, ?_, ?_, ?_, ?_⟩
    · rw [Array.getElem?_setIfInBounds_ne (by omega)]; exact h3
    all_goals
      rw [other _ _ (by omega), two _ _ (by omega), World.cell?_of_block (Below.heap_alloc _ _ _ h2), eg]
      assumption

theorem make48c (n : Nat) (hn : n ≤ 1048576) (W : World) : (Instr.makeSlice 48 (.int .i64 0) (.int .i64 n)).run Try.prog W = .ok (.slice (some ⟨W.heap.size, 0, none⟩) 0 n) (W.alloc (.cells (madeCells #[.pointer none] n) 49)) := by
  obtain ⟨i0, hi0, hz0, hz1, hz2⟩ := info_parts Try.info49
  have hr := run_make (P := Try.prog) W 48 49 i0 _ Try.underlying48 hi0 hz0 .i64 .i64 0 n (Int.le_refl _) (by omega) (by rw [hz2]; omega) (by omega)
  rw [hr, hz1, show (n : Int).toNat = n by omega, Nat.mul_one]
  rfl
end Go.Proofs.Qxb6615577a
