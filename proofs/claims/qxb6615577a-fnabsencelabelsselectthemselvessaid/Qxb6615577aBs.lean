/- ZZnewVectorSelector (22), buildSel (14), absence (25), ZZabsence (15). -/
import Derived.Test.Qxb6615577aBm
import Derived.BigRegion
namespace Go.Proofs.Qxb6615577a
open Go.RowKit

set_option maxHeartbeats 1000000 in
theorem zz22 (po : Option Addr) (n c : Nat) (o a t : Int) (w : World) :
    Calls Try.prog 22 #[.slice po n c, .int .i64 o, .int .i64 a, .int .i64 t] w fun e w' => e = .returned (.pointer (some ⟨w.heap.size, 0, none⟩)) ∧ w' = w.alloc (.cells #[.slice po n c, .int .i64 o, .int .i64 a, .int .i64 t] 65) := by
  go_enter Try.func22, Try.ntmps22
  go_wp2
  go_ret
  exact ⟨rfl, rfl⟩

theorem Try.info49 : (Try.prog.info? 49).map (fun i => (i.zero, i.size, i.bytes)) = some (some (.pointer none), 1, 8) := by kernel_rfl
theorem make48 (n : Nat) (hn : n ≤ 1048576) (W : World) : (Instr.makeSlice 48 (.int .i64 n) (.int .i64 n)).run Try.prog W = .ok (.slice (some ⟨W.heap.size, 0, none⟩) n n) (W.alloc (.cells (madeCells #[.pointer none] n) 49)) := by
  obtain ⟨i0, hi0, hz0, hz1, hz2⟩ := info_parts Try.info49
  have hr := run_make (P := Try.prog) W 48 49 i0 _ Try.underlying48 hi0 hz0 .i64 .i64 n n (by omega) (Int.le_refl _) (by rw [hz2]; omega) (by omega)
  rw [hr, hz1, show (n : Int).toNat = n by omega, Nat.mul_one]
  rfl

/-- The selector's cells. -/
def Sel (w : World) (B : Nat) (n : Nat) (M : Nat → Mtc) : Prop := B < w.heap.size ∧ ∃ po c, w.cell? ⟨B, 0, none⟩ = some (.slice po n c) ∧ Mat w po n M

/-- A matcher behind a pointer. -/
def mCells (m : Mtc) : Array Value := #[.int .i64 m.ty, .string m.nm, .string m.vl, .pointer none]

/-- k of the n pointers are laid. -/
def Mk (wr : World) (P n k : Nat) (M : Nat → Mtc) : Prop := ∃ c : Array Value, wr.heap[P]? = some (.cells c 49 (0, 0)) ∧ c.size = n ∧ ∀ i, i < k → ∃ q, P < q ∧ q < wr.heap.size ∧ c[i]? = some (.pointer (some ⟨q, 0, none⟩)) ∧
  wr.cell? ⟨q, 0, none⟩ = some (.int .i64 (M i).ty) ∧ wr.cell? ⟨q, 1, none⟩ = some (.string (M i).nm) ∧ wr.cell? ⟨q, 2, none⟩ = some (.string (M i).vl)

theorem Mk.made {W : World} {n : Nat} {M : Nat → Mtc} : Mk (W.alloc (.cells (madeCells #[.pointer none] n) 49)) W.heap.size n 0 M :=
  ⟨_, heap_alloc_new W _, by simp [madeCells], fun i hi => by omega⟩
theorem Mk.lt {wr : World} {P n k : Nat} {M : Nat → Mtc} (h : Mk wr P n k M) : P < wr.heap.size := by
  obtain ⟨c, hc, _⟩ := h
  exact (Array.getElem?_eq_some_iff.1 hc).1
theorem Mk.cell {wr : World} {P n k j : Nat} {M : Nat → Mtc} (h : Mk wr P n k M) (hj : j < n) (o : Obj) : ∃ u, (wr.alloc o).cell? ⟨P, j, none⟩ = some u ∧ (wr.alloc o).frozen? ⟨P, j, none⟩ = false := by
  have hlt := h.lt
  obtain ⟨c, hc, hs, _⟩ := h
  have he : (wr.alloc o).heap[P]? = some (.cells c 49 (0, 0)) := (Below.heap_alloc _ _ _ hlt).trans hc
  refine ⟨c[j]'(by omega), ?_, ?_⟩
  · simp [World.cell?, he]
  · simp [World.frozen?, he]
theorem Mk.step {wr : World} {P n k : Nat} {M : Nat → Mtc} (h : Mk wr P n k M) (hk : k < n) : Mk ((wr.alloc (.cells (mCells (M k)) 53)).setCell ⟨P, k, none⟩ (.pointer (some ⟨wr.heap.size, 0, none⟩))) P n (k + 1) M := by
  have hlt := h.lt
  obtain ⟨c, hc, hs, hr⟩ := h
  have he : (wr.alloc (.cells (mCells (M k)) 53)).heap[P]? = some (.cells c 49 (0, 0)) := (Below.heap_alloc _ _ _ hlt).trans hc
  have other : ∀ q o, q ≠ P → ((wr.alloc (.cells (mCells (M k)) 53)).setCell ⟨P, k, none⟩ (.pointer (some ⟨wr.heap.size, 0, none⟩))).cell? ⟨q, o, none⟩ = (wr.alloc (.cells (mCells (M k)) 53)).cell? ⟨q, o, none⟩ := fun q o hq => World.cell?_of_block (Below.heap_setCell _ _ _ _ hq)
  refine ⟨_, heap_setCell_same _ P k c 49 _ he, by simpa using hs, fun i hi => ?_⟩
  by_cases e : i = k
  · subst e
    refine ⟨wr.heap.size, hlt, by simp [World.setCell], ?_, ?_, ?_, ?_⟩
    · simp [hs, hk]
    all_goals
      rw [other _ _ (by omega)]
      simp [mCells]
  · obtain ⟨q, h1, h2, h3, h4, h5, h6⟩ := hr i (by omega)
    refine ⟨q, h1, by simp [World.setCell]; omega, ?_, ?_, ?_, ?_⟩
    · rw [Array.getElem?_setIfInBounds_ne (by omega)]; exact h3
    all_goals
      rw [other _ _ (by omega), World.cell?_of_block (Below.heap_alloc _ _ _ h2)]
      assumption
theorem Mk.mat {wr : World} {P n : Nat} {M : Nat → Mtc} (h : Mk wr P n n M) (hz : ∀ i, i < n → (M i).nm.size ≤ maxLen ∧ (M i).vl.size ≤ maxLen) : Mat wr (some ⟨P, 0, none⟩) n M := fun i hi => by
  have hlt := h.lt
  obtain ⟨c, hc, hs, hr⟩ := h
  obtain ⟨q, h1, h2, h3, h4, h5, h6⟩ := hr i hi
  exact ⟨P, q, rfl, hlt, h2, by simpa [World.cell?, hc] using h3, h4, h5, h6, hz i hi⟩

theorem MIn.sizes {w : World} {ao : Option Addr} {n : Nat} {M : Nat → Mtc} (h : MIn w ao n M) : ∀ i, i < n → (M i).nm.size ≤ maxLen ∧ (M i).vl.size ≤ maxLen := fun i hi => by
  rcases h with h | ⟨_, _, _, _, h⟩
  · omega
  · exact (h i hi).2.2.2

theorem Sel.made {w : World} {po : Option Addr} {n : Nat} {M : Nat → Mtc} (h : Mat w po n M) (c : Nat) (o a t : Int) : Sel (w.alloc (.cells #[.slice po n c, .int .i64 o, .int .i64 a, .int .i64 t] 65)) w.heap.size n M :=
  ⟨by simp, po, c, by simp, h.below ((Below.refl _ _).alloc (Nat.le_refl _) _)⟩

set_option maxRecDepth 10000 in
set_option maxHeartbeats 4000000 in
theorem buildSel_some {w : World} {ad : Addr} {len cap : Nat} {M : Nat → Mtc} (o a t : Int) (h : MIn w (some ad) len M) (hl : len ≤ 1048576) :
    Calls Try.prog 14 #[.bool true, .slice (some ad) len cap, .int .i64 o, .int .i64 a, .int .i64 t] w fun e w' => ∃ B, e = .returned (.pointer (some ⟨B, 0, none⟩)) ∧ Hid (Sel w' B len M ∧ Below w.heap.size w w') := by
  have hmk := make48 len hl
  have H : Hid (MIn w (some ad) len M) := h
  clear h
  go_enter Try.func14, Try.ntmps14
  go_wp2_with fail
  go_loopw [22] (fun y wr => ∃ k : Nat, k ≤ len ∧ y = .int .i64 k ∧ Hid (Mk wr w.heap.size len k M ∧ Below w.heap.size w wr)) (fun y _ => len - (intOf y).toNat)
  case atStart => exact ⟨0, Nat.zero_le _, rfl, Mk.made, (Below.refl _ _).alloc (Nat.le_refl _) _⟩
  case round =>
    clear hmk
    obtain ⟨k, hk, rfl, hmk, hbel⟩ := hrel
    have HK : Hid (Mk wr w.heap.size len k M ∧ Below w.heap.size w wr) := ⟨hmk, hbel⟩
    clear hmk hbel
    by_cases hlt : k < len
    · rcases H.out.below HK.out.2 with hz | ⟨b', off', e, hb, hc⟩
      · omega
      obtain ⟨c0, c1, c2, _, _⟩ := hc k hlt
      injection e with e
      subst e
      clear hc
      have hlt' : (k : Int) < len := by omega
      obtain ⟨u, cP, fP⟩ := HK.out.1.cell hlt (.cells (mCells (M k)) 53)
      unfold mCells at cP fP
      have HS : Hid (Mk ((wr.alloc (.cells (mCells (M k)) 53)).setCell ⟨w.heap.size, k, none⟩ (.pointer (some ⟨wr.heap.size, 0, none⟩))) w.heap.size len (k + 1) M) := HK.out.1.step hlt
      go_wp2_with fail
      go_region
      go_wp2_with fail
      go_roundw
      case rel => exact ⟨k + 1, by omega, by go_num, HS.out, (((HK.out.2.alloc HK.out.2.size _).setCell (Nat.le_refl _) _)).drew⟩
      case measure => simp [intOf]; omega
    · obtain rfl : k = len := by omega
      have HZ : Hid (Mat wr (some ⟨w.heap.size, 0, none⟩) k M) := HK.out.1.mat H.out.sizes
      go_wp2_with fail
      refine (zz22 _ _ _ _ _ _ _).mono ?_
      rintro e w1 ⟨rfl, rfl⟩
      go_wp2
      go_ret
      exact ⟨_, rfl, Sel.made HZ.out _ _ _ _, HK.out.2.alloc HK.out.2.size _⟩

set_option maxHeartbeats 1000000 in
theorem buildSel_nil {w : World} {M : Nat → Mtc} (o a t : Int) :
    Calls Try.prog 14 #[.bool true, .slice none 0 0, .int .i64 o, .int .i64 a, .int .i64 t] w fun e w' => ∃ B, e = .returned (.pointer (some ⟨B, 0, none⟩)) ∧ Hid (Sel w' B 0 M ∧ Below w.heap.size w w') := by
  have HZ : Hid (Mat w none 0 M) := fun i hi => by omega
  go_enter Try.func14, Try.ntmps14
  go_wp2_with fail
  refine (zz22 _ _ _ _ _ _ _).mono ?_
  rintro e w1 ⟨rfl, rfl⟩
  go_wp2
  go_ret
  exact ⟨_, rfl, Sel.made HZ.out _ _ _ _, (Below.refl _ _).alloc (Nat.le_refl _) _⟩

set_option maxHeartbeats 1000000 in
theorem buildSel_no {w : World} {ao : Option Addr} {len cap : Nat} (o a t : Int) :
    Calls Try.prog 14 #[.bool false, .slice ao len cap, .int .i64 o, .int .i64 a, .int .i64 t] w fun e w' => e = .returned (.pointer none) ∧ w' = w := by
  go_enter Try.func14, Try.ntmps14
  go_wp2
  go_ret
  exact ⟨rfl, rfl⟩

theorem buildSel_any {w : World} {ao : Option Addr} {len cap : Nat} {M : Nat → Mtc} (o a t : Int) (h : MIn w ao len M) (hl : len ≤ 1048576) (hnil : ao = none → len = 0 ∧ cap = 0) :
    Calls Try.prog 14 #[.bool true, .slice ao len cap, .int .i64 o, .int .i64 a, .int .i64 t] w fun e w' => ∃ B, e = .returned (.pointer (some ⟨B, 0, none⟩)) ∧ Hid (Sel w' B len M ∧ Below w.heap.size w w') := by
  cases ao with
  | none =>
    obtain ⟨rfl, rfl⟩ := hnil rfl
    exact buildSel_nil o a t
  | some ad => exact buildSel_some o a t h hl

/-- The one element that absence hands back. -/
def One (w' : World) (S : Nat) (so : Option Addr) (n cap : Nat) (t : Int) : Prop := S < w'.heap.size ∧ w'.cell? ⟨S, 0, none⟩ = some (.slice so n cap) ∧ w'.cell? ⟨S, 1, none⟩ = some (.int .i64 t) ∧ w'.cell? ⟨S, 2, none⟩ = some (.float .f64 4607182418800017408) ∧ w'.cell? ⟨S, 3, none⟩ = some (.int .i64 0)

set_option maxHeartbeats 1000000 in
theorem absence_any {w : World} {B n : Nat} {M : Nat → Mtc} (t : Int) (h : Sel w B n M) (hn : n ≤ 1048576) :
    Calls Try.prog 25 #[.pointer (some ⟨B, 0, none⟩), .int .i64 t] w fun e w' => ∃ S, e = .returned (.slice (some ⟨S, 0, none⟩) 1 1) ∧ Hid (∃ so' n' cap' r', EqR M n w w' so' n' r' ∧ One w' S so' n' cap' t) := by
  obtain ⟨hB, po, c, hc, hm⟩ := h
  have H : Hid (Mat w po n M) := hm
  clear hm
  go_enter Try.func25, Try.ntmps25
  go_wp2_with fail
  refine (eql_any H.out hn).mono ?_
  rintro e w1 ⟨so', n', cap', r', rfl, hR⟩
  have HO : Hid (EqR M n w (w1.alloc (.cells #[.slice so' n' cap', .int .i64 t, .float .f64 4607182418800017408, .int .i64 0] 43)) so' n' r' ∧ One (w1.alloc (.cells #[.slice so' n' cap', .int .i64 t, .float .f64 4607182418800017408, .int .i64 0] 43)) w1.heap.size so' n' cap' t) := by
    obtain ⟨a1, a2, a3, a4, a5⟩ := hR.out
    refine ⟨⟨a1, a2.below ((Below.refl _ _).alloc (Nat.le_refl _) _), a3, a4.alloc a4.size _, a5⟩, by simp, by simp, by simp, by simp, by simp⟩
  clear hR
  go_wp2
  go_ret
  exact ⟨_, rfl, _, _, _, _, HO.out⟩

set_option maxHeartbeats 1000000 in
theorem absence_nil (w : World) (t : Int) :
    Calls Try.prog 25 #[.pointer none, .int .i64 t] w fun e w' => ∃ S, e = .returned (.slice (some ⟨S, 0, none⟩) 1 1) ∧ Hid (Below w.heap.size w w' ∧ One w' S none 0 0 t) := by
  go_enter Try.func25, Try.ntmps25
  go_wp2
  go_ret
  exact ⟨_, rfl, (Below.refl _ _).alloc (Nat.le_refl _) _, by simp, by simp, by simp, by simp, by simp⟩

set_option maxHeartbeats 1000000 in
theorem zzabs_any {w : World} {B n : Nat} {M : Nat → Mtc} (t : Int) (h : Sel w B n M) (hn : n ≤ 1048576) :
    Calls Try.prog 15 #[.pointer (some ⟨B, 0, none⟩), .int .i64 t] w fun e w' => ∃ S, e = .returned (.slice (some ⟨S, 0, none⟩) 1 1) ∧ Hid (∃ so' n' cap' r', EqR M n w w' so' n' r' ∧ One w' S so' n' cap' t) := by
  have H : Hid (Sel w B n M) := h
  clear h
  go_enter Try.func15, Try.ntmps15
  go_wp2_with fail
  refine (absence_any t H.out hn).mono ?_
  rintro e w1 ⟨S, rfl, hR⟩
  go_wp2
  go_ret
  exact ⟨_, rfl, hR⟩

set_option maxHeartbeats 1000000 in
theorem zzabs_nil (w : World) (t : Int) :
    Calls Try.prog 15 #[.pointer none, .int .i64 t] w fun e w' => ∃ S, e = .returned (.slice (some ⟨S, 0, none⟩) 1 1) ∧ Hid (Below w.heap.size w w' ∧ One w' S none 0 0 t) := by
  go_enter Try.func15, Try.ntmps15
  go_wp2_with fail
  refine (absence_nil w t).mono ?_
  rintro e w1 ⟨S, rfl, hR⟩
  go_wp2
  go_ret
  exact ⟨_, rfl, hR⟩
end Go.Proofs.Qxb6615577a
