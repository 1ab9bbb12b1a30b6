/- slices.Index (41), slices.Contains (34), the closures 33 and 40. -/
import Derived.Test.Qxb6615577aNewNil
namespace Go.Proofs.Qxb6615577a
open Go.RowKit

/-- A row of m names behind a slice value. -/
def StrIn (w : World) (co : Option Addr) (m : Nat) (f : Nat → ByteArray) : Prop := ∀ i, i < m → ∃ C, co = some ⟨C, 0, none⟩ ∧ w.cell? ⟨C, i, none⟩ = some (.string (f i))

def hasB (f : Nat → ByteArray) : Nat → ByteArray → Bool
  | 0, _ => false
  | m + 1, s => hasB f m s || s.toList == (f m).toList

theorem hasB_of {f : Nat → ByteArray} {s : ByteArray} : ∀ {m i : Nat}, i < m → (s.toList == (f i).toList) = true → hasB f m s = true
  | m + 1, i, h, e => by
    by_cases c : i = m
    · subst c; simp [hasB, e]
    · simp [hasB, hasB_of (m := m) (by omega) e]
theorem hasB_not {f : Nat → ByteArray} {s : ByteArray} : ∀ {m : Nat}, (∀ i, i < m → (s.toList == (f i).toList) = false) → hasB f m s = false
  | 0, _ => rfl
  | m + 1, h => by rw [hasB, h m (by omega), hasB_not fun i hi => h i (by omega)]; rfl

set_option maxHeartbeats 1000000 in
theorem index_any {w : World} {co : Option Addr} {m cc : Nat} {f : Nat → ByteArray} (s : ByteArray) (h : StrIn w co m f) (hm : m ≤ 1048576) :
    Calls Try.prog 41 #[.slice co m cc, .string s] w fun e w' => ∃ r : Int, e = .returned (.int .i64 r) ∧ (0 ≤ r ↔ hasB f m s = true) ∧ w = w' := by
  have H : Hid (StrIn w co m f) := h
  clear h
  go_enter Try.func41, Try.ntmps41
  go_wp2
  go_loopw [8] (fun y wr => ∃ i : Nat, i ≤ m ∧ y = .int .i64 i ∧ Hid (∀ j, j < i → (s.toList == (f j).toList) = false) ∧ w = wr) (fun y _ => m - (intOf y).toNat)
  case atStart => exact ⟨0, Nat.zero_le _, rfl, fun j hj => by omega, rfl⟩
  case round =>
    obtain ⟨i, hi, rfl, HN, rfl⟩ := hrel
    by_cases hlt : i < m
    · obtain ⟨C, rfl, hc⟩ := H.out i hlt
      cases hq : s.toList == (f i).toList
      · go_wp2
        go_roundw
        case rel => exact ⟨i + 1, by omega, by go_num, fun j hj => by
          by_cases c : j = i
          · subst c; exact hq
          · exact HN.out j (by omega), by first | rfl | trivial⟩
        case measure => simp [intOf]; omega
      · go_wp2
        go_ret
        exact ⟨i, rfl, ⟨fun _ => hasB_of hlt hq, fun _ => by omega⟩, rfl⟩
    · obtain rfl : i = m := by omega
      have hh := hasB_not HN.out
      have HH : Hid (hasB f i s = false) := hh
      clear hh
      go_wp2
      go_ret
      exact ⟨-1, rfl, ⟨fun h => by omega, fun h => by rw [HH.out] at h; cases h⟩, rfl⟩

set_option maxHeartbeats 1000000 in
theorem contains_any {w : World} {co : Option Addr} {m cc : Nat} {f : Nat → ByteArray} (s : ByteArray) (h : StrIn w co m f) (hm : m ≤ 1048576) :
    Calls Try.prog 34 #[.slice co m cc, .string s] w fun e w' => e = .returned (.bool (hasB f m s)) ∧ w = w' := by
  have H : Hid (StrIn w co m f) := h
  clear h
  go_enter Try.func34, Try.ntmps34
  go_wp2_with fail
  refine (index_any s H.out hm).mono ?_
  rintro e w' ⟨r, rfl, hr, rfl⟩
  cases hb : hasB f m s
  · have h0 : ¬ (0 : Int) ≤ r := fun h => by rw [hr.1 h] at hb; cases hb
    clear hr
    go_wp2
    go_ret
    exact ⟨by simp [hb, h0], rfl⟩
  · have h0 : (0 : Int) ≤ r := hr.2 hb
    clear hr
    go_wp2
    go_ret
    exact ⟨by simp [hb], rfl⟩

/-- What 'keep' (Without$1) reads: the box of names. -/
structure Kp (w : World) (N : Nat) (co : Option Addr) (m cc : Nat) (f : Nat → ByteArray) : Prop where
  box : w.cell? ⟨N, 0, none⟩ = some (.slice co m cc)
  blt : N < w.heap.size
  row : StrIn w co m f
  lt : ∀ C, co = some ⟨C, 0, none⟩ → C < w.heap.size

theorem Kp.below {w w' : World} {N : Nat} {co : Option Addr} {m cc : Nat} {f : Nat → ByteArray} (h : Kp w N co m cc f) (hb : Below w.heap.size w w') : Kp w' N co m cc f :=
  ⟨(hb.cell (p := ⟨N, 0, none⟩) h.blt).trans h.box, Nat.lt_of_lt_of_le h.blt hb.size, fun i hi => by obtain ⟨C, e, hc⟩ := h.row i hi; exact ⟨C, e, (hb.cell (p := ⟨C, i, none⟩) (h.lt C e)).trans hc⟩, fun C e => Nat.lt_of_lt_of_le (h.lt C e) hb.size⟩
theorem Kp.alloc {w : World} {N : Nat} {co : Option Addr} {m cc : Nat} {f : Nat → ByteArray} (h : Kp w N co m cc f) (o : Obj) : Kp (w.alloc o) N co m cc f := h.below ((Below.refl _ _).alloc (Nat.le_refl _) o)

set_option maxHeartbeats 1000000 in
theorem keep_any {w : World} {N : Nat} {co : Option Addr} {m cc : Nat} {f : Nat → ByteArray} (x : Lab) (h : Kp w N co m cc f) (hm : m ≤ 1048576) :
    Calls Try.prog 33 #[.agg #[.string x.1, .string x.2], .pointer (some ⟨N, 0, none⟩)] w fun e w' => e = .returned (.bool (!hasB f m x.1)) ∧ Below w.heap.size w w' := by
  have H : Hid (Kp (w.alloc (.cells #[.string x.1, .string x.2] 31)) N co m cc f) := h.alloc _
  have hb := H.out.box
  clear h
  go_enter Try.func33, Try.ntmps33
  go_wp2_with fail
  refine (contains_any x.1 H.out.row hm).mono ?_
  rintro e w' ⟨rfl, rfl⟩
  go_wp2
  go_ret
  exact ⟨rfl, (Below.refl _ _).alloc (Nat.le_refl _) _⟩

/-- The box of 'keep'. -/
theorem notkeep_any {w : World} {N F : Nat} {co : Option Addr} {m cc : Nat} {f : Nat → ByteArray} (x : Lab) (h : Kp w N co m cc f) (hF : w.cell? ⟨F, 0, none⟩ = some (.func (.func 33) #[] #[.pointer (some ⟨N, 0, none⟩)])) (hFl : F < w.heap.size) (hm : m ≤ 1048576) :
    Calls Try.prog 40 #[.agg #[.string x.1, .string x.2], .pointer (some ⟨F, 0, none⟩)] w fun e w' => e = .returned (.bool (hasB f m x.1)) ∧ Below w.heap.size w w' := by
  have H : Hid (Kp (w.alloc (.cells #[.string x.1, .string x.2] 31)) N co m cc f) := h.alloc _
  have hb : (w.alloc (.cells #[.string x.1, .string x.2] 31)).cell? ⟨F, 0, none⟩ = some (.func (.func 33) #[] #[.pointer (some ⟨N, 0, none⟩)]) := ((((Below.refl _ _).alloc (Nat.le_refl _) _).cell (p := ⟨F, 0, none⟩) hFl)).trans hF
  clear h hF
  go_enter Try.func40, Try.ntmps40
  go_wp2_with fail
  refine (keep_any x H.out hm).mono ?_
  rintro e w' ⟨rfl, hB⟩
  have HB : Hid (Below w.heap.size w w') := ((Below.refl _ _).alloc (Nat.le_refl _) _).trans (hB.mono (by simp))
  clear hB
  go_wp2
  go_ret
  exact ⟨by simp, HB.out⟩
end Go.Proofs.Qxb6615577a
