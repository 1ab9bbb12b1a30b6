/- slices.IndexFunc (39). -/
import Derived.Test.Qxb6615577aWo
namespace Go.Proofs.Qxb6615577a
open Go.RowKit

/-- A row of n labels behind a slice value. -/
def LabRow (w : World) (so : Option Addr) (n : Nat) (r : Nat → Lab) : Prop := ∀ i, i < n → ∃ B, so = some ⟨B, 0, none⟩ ∧ B < w.heap.size ∧ w.cell? ⟨B, i * 2, none⟩ = some (.string (r i).1) ∧ w.cell? ⟨B, i * 2 + 1, none⟩ = some (.string (r i).2)
theorem Row.lab {w : World} {B n : Nat} {r : Nat → Lab} (h : Row w B n r) : LabRow w (some ⟨B, 0, none⟩) n r := fun _ hi => ⟨B, rfl, h.lt, h.cell0 hi, h.cell1 hi⟩
theorem LabRow.below {w w' : World} {so : Option Addr} {n : Nat} {r : Nat → Lab} (h : LabRow w so n r) (hb : Below w.heap.size w w') : LabRow w' so n r := fun i hi => by
  obtain ⟨B, e, hl, h0, h1⟩ := h i hi
  exact ⟨B, e, Nat.lt_of_lt_of_le hl hb.size, (hb.cell (p := ⟨B, i * 2, none⟩) hl).trans h0, (hb.cell (p := ⟨B, i * 2 + 1, none⟩) hl).trans h1⟩

set_option maxHeartbeats 1000000 in
theorem indexFunc_any {w : World} {N F n cap : Nat} {co so : Option Addr} {m cc : Nat} {f : Nat → ByteArray} {r : Nat → Lab} (h : Kp w N co m cc f) (hF : w.cell? ⟨F, 0, none⟩ = some (.func (.func 33) #[] #[.pointer (some ⟨N, 0, none⟩)])) (hFl : F < w.heap.size) (hm : m ≤ 1048576) (hn : n ≤ 1048576) (hr : LabRow w so n r) :
    Calls Try.prog 39 #[.slice so n cap, .func (.func 40) #[] #[.pointer (some ⟨F, 0, none⟩)]] w fun e w' => ∃ q : Int, e = .returned (.int .i64 q) ∧ Hid (Below w.heap.size w w' ∧ ((q = -1 ∧ ∀ j, j < n → hasB f m (r j).1 = false) ∨ ∃ i, i < n ∧ q = (i : Int) ∧ hasB f m (r i).1 = true ∧ ∀ j, j < i → hasB f m (r j).1 = false)) := by
  have H : Hid (Kp w N co m cc f ∧ w.cell? ⟨F, 0, none⟩ = some (.func (.func 33) #[] #[.pointer (some ⟨N, 0, none⟩)]) ∧ LabRow w so n r) := ⟨h, hF, hr⟩
  clear h hF hr
  go_enter Try.func39, Try.ntmps39
  go_wp2
  go_loopw [8] (fun y wr => ∃ i : Nat, i ≤ n ∧ y = .int .i64 i ∧ Hid (Below w.heap.size w wr ∧ ∀ j, j < i → hasB f m (r j).1 = false)) (fun y _ => n - (intOf y).toNat)
  case atStart => exact ⟨0, Nat.zero_le _, rfl, Below.refl _ _, fun j hj => by omega⟩
  case round =>
    obtain ⟨i, hi, rfl, HN⟩ := hrel
    by_cases hlt : i < n
    · obtain ⟨B, rfl, hl, c0, c1⟩ := H.out.2.2.below HN.out.1 i hlt
      go_wp2_with fail
      refine (notkeep_any (r i) (H.out.1.below HN.out.1) ((HN.out.1.cell (p := ⟨F, 0, none⟩) hFl).trans H.out.2.1) (Nat.lt_of_lt_of_le hFl HN.out.1.size) hm).mono ?_
      rintro e w' ⟨rfl, hB⟩
      have HB : Hid (Below w.heap.size w w') := HN.out.1.trans (hB.mono HN.out.1.size)
      clear hB
      cases hq : hasB f m (r i).1
      · go_wp2
        go_roundw
        case rel => exact ⟨i + 1, by omega, by go_num, HB.out, fun j hj => by
          by_cases c : j = i
          · subst c; exact hq
          · exact HN.out.2 j (by omega)⟩
        case measure => simp [intOf]; omega
      · go_wp2
        go_ret
        exact ⟨i, rfl, HB.out, Or.inr ⟨i, hlt, rfl, hq, HN.out.2⟩⟩
    · obtain rfl : i = n := by omega
      go_wp2
      go_ret
      exact ⟨-1, rfl, HN.out.1, Or.inl ⟨rfl, HN.out.2⟩⟩
end Go.Proofs.Qxb6615577a
