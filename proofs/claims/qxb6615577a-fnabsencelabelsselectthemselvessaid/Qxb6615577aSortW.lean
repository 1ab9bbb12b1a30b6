/- The sorted row in memory; 'less' (31) and 'swap' (50). -/
import Derived.Test.Qxb6615577aSame
import Derived.Test.Qxb6615577aSortQ
import Derived.Lib.ReflectliteSwap
namespace Go.Proofs.Qxb6615577a
open Go.RowKit

/-- A label as the sort moves it: its name's and its value's bytes. -/
abbrev Lab : Type := ByteArray × ByteArray
def ltN (x y : Lab) : Bool := Op.bytesLess x.1.toList y.1.toList

/-- Block blk is a row of type 31, none frozen, whose first n elements are d. -/
def Row (w : World) (blk n : Nat) (d : Nat → Lab) : Prop :=
  ∃ c : Array Value, w.heap[blk]? = some (.cells c 31 (0, 0)) ∧ n * 2 ≤ c.size ∧ ∀ i, i < n → c[i * 2]? = some (.string (d i).1) ∧ c[i * 2 + 1]? = some (.string (d i).2)

/-- Nothing but block blk has turned; new blocks may have come. -/
structure Oth (blk : Nat) (w w' : World) : Prop where
  os : w'.os = w.os
  tape : w'.tape = w.tape
  output : w'.output = w.output
  size : w.heap.size ≤ w'.heap.size
  block : ∀ k, k < w.heap.size → k ≠ blk → w'.heap[k]? = w.heap[k]?

theorem Oth.refl (blk : Nat) (w : World) : Oth blk w w := ⟨rfl, rfl, rfl, Nat.le_refl _, fun _ _ _ => rfl⟩
theorem Oth.trans {blk : Nat} {a b c : World} (h : Oth blk a b) (k : Oth blk b c) : Oth blk a c :=
  ⟨k.os.trans h.os, k.tape.trans h.tape, k.output.trans h.output, Nat.le_trans h.size k.size, fun i hi hne => (k.block i (Nat.lt_of_lt_of_le hi h.size) hne).trans (h.block i hi hne)⟩
theorem Oth.drewN {blk : Nat} {a w : World} (h : Oth blk a w) (n : Nat) : Oth blk a (w.drewN n) := h.trans ⟨rfl, rfl, rfl, Nat.le_refl _, fun _ _ _ => rfl⟩
theorem Oth.alloc {blk : Nat} {a w : World} (h : Oth blk a w) (o : Obj) : Oth blk a (w.alloc o) := h.trans ⟨rfl, rfl, rfl, by simp, fun k hk _ => Below.heap_alloc _ _ _ hk⟩
theorem Oth.set {blk : Nat} {a w : World} (h : Oth blk a w) (o : Nat) (v : Value) : Oth blk a (w.setCell ⟨blk, o, none⟩ v) := h.trans ⟨rfl, rfl, rfl, by simp [World.setCell], fun k _ hne => Below.heap_setCell _ _ _ _ hne⟩
theorem Oth.cell {blk : Nat} {w w' : World} (h : Oth blk w w') {b o : Nat} (hb : b < w.heap.size) (hne : b ≠ blk) : w'.cell? ⟨b, o, none⟩ = w.cell? ⟨b, o, none⟩ := World.cell?_of_block (w := w) (h.block b hb hne)
theorem Oth.frozen {blk : Nat} {w w' : World} (h : Oth blk w w') {b o : Nat} (hb : b < w.heap.size) (hne : b ≠ blk) : w'.frozen? ⟨b, o, none⟩ = w.frozen? ⟨b, o, none⟩ := World.frozen?_of_block (w := w) (h.block b hb hne)

namespace Row
variable {w : World} {blk n : Nat} {d : Nat → Lab}
theorem of_block {w' : World} (h : Row w blk n d) (e : w'.heap[blk]? = w.heap[blk]?) : Row w' blk n d := by
  obtain ⟨c, hc, h2⟩ := h
  exact ⟨c, e.trans hc, h2⟩
theorem lt (h : Row w blk n d) : blk < w.heap.size := by
  obtain ⟨c, hc, _⟩ := h
  exact (Array.getElem?_eq_some_iff.1 hc).1
theorem drewN (h : Row w blk n d) (k : Nat) : Row (w.drewN k) blk n d := h.of_block rfl
theorem alloc (h : Row w blk n d) (o : Obj) : Row (w.alloc o) blk n d := h.of_block (Below.heap_alloc _ _ _ h.lt)
theorem cell0 (h : Row w blk n d) {i : Nat} (hi : i < n) : w.cell? ⟨blk, i * 2, none⟩ = some (.string (d i).1) := by
  obtain ⟨c, hc, _, hs⟩ := h
  simp [World.cell?, hc, (hs i hi).1]
theorem cell1 (h : Row w blk n d) {i : Nat} (hi : i < n) : w.cell? ⟨blk, i * 2 + 1, none⟩ = some (.string (d i).2) := by
  obtain ⟨c, hc, _, hs⟩ := h
  simp [World.cell?, hc, (hs i hi).2]
theorem frozen (h : Row w blk n d) (i : Nat) : w.frozen? ⟨blk, i, none⟩ = false := by
  obtain ⟨c, hc, _⟩ := h
  simp [World.frozen?, hc]
theorem congr {d' : Nat → Lab} (h : Row w blk n d) (e : ∀ i, i < n → d' i = d i) : Row w blk n d' := by
  obtain ⟨c, hc, hn, hs⟩ := h
  exact ⟨c, hc, hn, fun i hi => by rw [e i hi]; exact hs i hi⟩

/-- One element written. -/
theorem put (h : Row w blk n d) {i : Nat} (hi : i < n) (x : Lab) : Row ((w.setCell ⟨blk, i * 2, none⟩ (.string x.1)).setCell ⟨blk, i * 2 + 1, none⟩ (.string x.2)) blk n (fun k => if k = i then x else d k) := by
  obtain ⟨c, hc, hn, hs⟩ := h
  refine ⟨(c.setIfInBounds (i * 2) (.string x.1)).setIfInBounds (i * 2 + 1) (.string x.2), ?_, by simpa using hn, fun k hk => ?_⟩
  · simp [World.setCell, Array.getElem?_modify, hc]
  · by_cases e : k = i
    · subst e
      refine ⟨?_, ?_⟩
      · rw [Array.getElem?_setIfInBounds_ne (by omega), Array.getElem?_setIfInBounds_self_of_lt (by omega)]; simp
      · rw [Array.getElem?_setIfInBounds_self_of_lt (by simp; omega)]; simp
    · refine ⟨?_, ?_⟩
      · rw [Array.getElem?_setIfInBounds_ne (by omega), Array.getElem?_setIfInBounds_ne (by omega)]; simp only [if_neg e]; exact (hs k hk).1
      · rw [Array.getElem?_setIfInBounds_ne (by omega), Array.getElem?_setIfInBounds_ne (by omega)]; simp only [if_neg e]; exact (hs k hk).2
end Row

/-- The world behind swap(i, j). -/
def swW (w : World) (blk i j : Nat) (d : Nat → Lab) : World :=
  (((w.setCell ⟨blk, i * 2, none⟩ (.string (d j).1)).setCell ⟨blk, i * 2 + 1, none⟩ (.string (d j).2)).setCell ⟨blk, j * 2, none⟩ (.string (d i).1)).setCell ⟨blk, j * 2 + 1, none⟩ (.string (d i).2)

theorem swW_row {w : World} {blk n i j : Nat} {d : Nat → Lab} (h : Row w blk n d) (hi : i < n) (hj : j < n) : Row (swW w blk i j d) blk n (SP.swp i j d) := by
  refine ((h.put hi (d j)).put hj (d i)).congr fun k _ => ?_
  unfold SP.swp
  by_cases h1 : k = i
  · subst h1
    rw [if_pos rfl]
    by_cases h2 : k = j
    · rw [if_pos h2, h2]
    · rw [if_neg h2, if_pos rfl]
  · rw [if_neg h1]
    by_cases h2 : k = j
    · rw [if_pos h2, if_pos h2]
    · rw [if_neg h2, if_neg h2, if_neg h1]
theorem swW_oth (w : World) (blk i j : Nat) (d : Nat → Lab) : Oth blk w (swW w blk i j d) := ((((Oth.refl _ _).set _ _).set _ _).set _ _).set _ _

theorem Try.agg31 : ∀ w, (isAgg 31).run Try.prog w = .ok true w := fun _ => by kernel_rfl

/-- swap(i, j), as the walk meets it. -/
theorem swap_run {w : World} {blk n cap i j : Nat} {d : Nat → Lab} (h : Row w blk n d) (hi : i < n) (hj : j < n) :
    (callFunc 50 #[.int .i64 (i : Int), .int .i64 (j : Int), .slice (some ⟨blk, 0, none⟩) n cap, typeHandle Try.prog 31]).run Try.prog w = .ok (.value (.tuple #[])) (swW w blk i j d) := by
  obtain ⟨ie, hie, _, hsz, _⟩ := info_parts Try.info31
  have hr := Lib.run_swap_cells (P := Try.prog) false 31 ie hie Try.agg31 blk 0 n cap i j hi hj [.string (d i).1, .string (d i).2] [.string (d j).1, .string (d j).2] (by rw [hsz]; rfl) (by rw [hsz]; rfl)
    (by intro v hv; simp at hv; rcases hv with rfl | rfl <;> rfl) (by intro v hv; simp at hv; rcases hv with rfl | rfl <;> rfl) w
    (by
      rw [hsz]; intro k v hv
      match k, hv with
      | 0, hv => simp at hv; subst hv; simpa using h.cell0 hi
      | 1, hv => simp at hv; subst hv; simpa using h.cell1 hi)
    (by
      rw [hsz]; intro k v hv
      match k, hv with
      | 0, hv => simp at hv; subst hv; simpa using h.cell0 hj
      | 1, hv => simp at hv; subst hv; simpa using h.cell1 hj)
    (fun k _ => h.frozen _) (fun k _ => h.frozen _)
  rw [run_callFunc_extern Try.func50 (by kernel_rfl) (by kernel_rfl) (by kernel_rfl) (e := Extern.ReflectliteSwapper.swap false) (by kernel_rfl), hr, hsz]
  simp only [Result.andThen, World.setCells, Nat.zero_add]
  rfl

set_option maxHeartbeats 1000000 in
/-- less(i, j): the closure New$1, bound to the box of 'set'. -/
theorem less31 {w : World} {blk n cap S i j : Nat} {d : Nat → Lab} (h : Row w blk n d) (hS : w.cell? ⟨S, 0, none⟩ = some (.slice (some ⟨blk, 0, none⟩) n cap)) (hi : i < n) (hj : j < n) :
    Calls Try.prog 31 #[.int .i64 (i : Int), .int .i64 (j : Int), .pointer (some ⟨S, 0, none⟩)] w fun e w' => e = .returned (.bool (ltN (d i) (d j))) ∧ ∃ k, w' = w.drewN k := by
  have ci := h.cell0 hi
  have cj := h.cell0 hj
  have hi' : (i : Int) < n := by omega
  have hj' : (j : Int) < n := by omega
  clear h
  go_enter Try.func31, Try.ntmps31
  go_wp2
  go_quiet (fail)
  go_wp2
  go_ret
  exact ⟨rfl, _, rfl⟩
end Go.Proofs.Qxb6615577a
