/- FnIsDigitIsHexLetterSisters (6): the walk. -/
import Derived.Test.Qxb6615880aBytes
import Derived.Deep.OwnRows
namespace Go.Proofs.Qxb6615880a
open Go.RowKit

theorem zeros16 (w : World) : (w.alloc (.cells #[.int .i64 0, .int .i64 0, .int .i64 0, .int .i64 0, .int .i64 0, .int .i64 0, .int .i64 0, .int .i64 0, .int .i64 0, .int .i64 0, .int .i64 0, .int .i64 0, .int .i64 0, .int .i64 0, .int .i64 0, .int .i64 0] 36)).rowIs w.heap.size 36 16 (fun v => .int .i64 (per 0 v)) := by
  refine World.rowIs_alloc w #[.int .i64 0, .int .i64 0, .int .i64 0, .int .i64 0, .int .i64 0, .int .i64 0, .int .i64 0, .int .i64 0, .int .i64 0, .int .i64 0, .int .i64 0, .int .i64 0, .int .i64 0, .int .i64 0, .int .i64 0, .int .i64 0] 36 _ fun i hi => ?_
  have hi' : i < 16 := hi
  match i, hi' with
  | 0, _ | 1, _ | 2, _ | 3, _ | 4, _ | 5, _ | 6, _ | 7, _ | 8, _ | 9, _ | 10, _ | 11, _ | 12, _ | 13, _ | 14, _ | 15, _ => rfl
  | n + 16, h => omega

theorem step_row {wr : World} {B k v : Nat} (h : wr.rowIs B 36 16 (fun v => .int .i64 (per k v))) (hv : dval k = v) :
    (wr.setCell ⟨B, v, none⟩ (.int .i64 (per k v + 1))).rowIs B 36 16 (fun v => .int .i64 (per (k + 1) v)) := by
  refine (h.set v _).congr fun j _ => ?_
  by_cases e : j = v
  · subst e; simp [per, hv]
  · have e' : ¬ (v : Int) = (j : Int) := by omega
    simp [per, hv, e, e']

theorem same_row {wr : World} {B k : Nat} (h : wr.rowIs B 36 16 (fun v => .int .i64 (per k v))) (hv : dval k = 16) : wr.rowIs B 36 16 (fun v => .int .i64 (per (k + 1) v)) := by
  refine h.congr fun j hj => ?_
  have e : ¬ (16 : Int) = j := by omega
  simp [per, hv, e]

set_option maxRecDepth 10000 in
set_option maxHeartbeats 1000000 in
theorem f6_any (w : World) : Calls Try.prog 6 #[] w fun e w' => e = .returned (.bool true) ∧ Below w.heap.size w w' := by
  go_enter Try.func6, Try.ntmps6
  go_wp2
  go_loopw [1, 2, 4] (fun d h i wr => ∃ k : Nat, k ≤ 256 ∧ i = .int .i64 k ∧ d = .int .i64 (cD k) ∧ h = .int .i64 (cH k) ∧ wr.rowIs w.heap.size 36 16 (fun v => .int .i64 (per k v)) ∧ Below w.heap.size w wr) (fun _ _ i _ => 256 - (intOf i).toNat)
  case atStart => exact ⟨0, Nat.zero_le _, rfl, rfl, rfl, zeros16 w, (Below.refl _ _).alloc (Nat.le_refl _) _⟩
  case round =>
    obtain ⟨k, hk, rfl, rfl, rfl, hrow, hbel⟩ := hrel
    obtain ⟨bd0, bd1⟩ := cD_bd k
    obtain ⟨bh0, bh1⟩ := cH_bd k
    have HR : Hid (wr.rowIs w.heap.size 36 16 (fun v => .int .i64 (per k v))) := hrow
    have HB : Hid (Below w.heap.size w wr) := hbel
    clear hrow hbel
    by_cases hlt : k < 256
    · rcases kinds k with ⟨e1, e2, b1, b2, e3⟩ | ⟨e1, e2, b1, b2⟩ | ⟨e1, e2, b1⟩
      · obtain ⟨v, hv⟩ : ∃ v : Nat, dval k = v := ⟨(dval k).toNat, by omega⟩
        obtain ⟨bp0, bp1⟩ := per_bd k v
        have c0 : wr.cell? ⟨w.heap.size, v, none⟩ = some (.int .i64 (per k v)) := HR.out.cell (i := v) (by omega)
        have f0 := HR.out.frozen v
        clear e3
        have d1 : cD (k + 1) = cD k + 1 := by simp [cD, e1]
        have d2 : cH (k + 1) = cH k := by simp [cH, e2]
        have R : Hid ((wr.setCell ⟨w.heap.size, v, none⟩ (.int .i64 (per k v + 1))).rowIs w.heap.size 36 16 (fun v => .int .i64 (per (k + 1) v))) := step_row HR.out hv
        have D : Hid (cD (k + 1) = cD k + 1 ∧ cH (k + 1) = cH k) := ⟨d1, d2⟩
        clear d1 d2
        have hv10 : (v : Int) < 10 := by omega
        go_wp2_with (first | (go_at_call 13; refine (zzDigit_any _ _).mono ?_; rintro e w' ⟨rfl, hw'⟩; subst hw') | (go_at_call 14; refine (zzHex_any _ _).mono ?_; rintro e w' ⟨rfl, hw'⟩; subst hw') | (go_at_call 15; refine (zzVal_any _ _ (by omega) (by omega)).mono ?_; rintro e w' ⟨rfl, hw'⟩; subst hw'))
        go_roundw
        case rel => exact ⟨k + 1, by omega, by go_num, by rw [D.out.1], by rw [D.out.2], R.out, HB.out.setCell (Nat.le_refl _) _⟩
        case measure => simp [intOf]; omega
      · obtain ⟨v, hv⟩ : ∃ v : Nat, dval k = v := ⟨(dval k).toNat, by omega⟩
        obtain ⟨bp0, bp1⟩ := per_bd k v
        have c0 : wr.cell? ⟨w.heap.size, v, none⟩ = some (.int .i64 (per k v)) := HR.out.cell (i := v) (by omega)
        have f0 := HR.out.frozen v
        have d1 : cD (k + 1) = cD k := by simp [cD, e1]
        have d2 : cH (k + 1) = cH k + 1 := by simp [cH, e2]
        have R : Hid ((wr.setCell ⟨w.heap.size, v, none⟩ (.int .i64 (per k v + 1))).rowIs w.heap.size 36 16 (fun v => .int .i64 (per (k + 1) v))) := step_row HR.out hv
        have D : Hid (cD (k + 1) = cD k ∧ cH (k + 1) = cH k + 1) := ⟨d1, d2⟩
        clear d1 d2
        have hv10 : ¬ (v : Int) < 10 := by omega
        have hv16 : (v : Int) < 16 := by omega
        go_wp2_with (first | (go_at_call 13; refine (zzDigit_any _ _).mono ?_; rintro e w' ⟨rfl, hw'⟩; subst hw') | (go_at_call 14; refine (zzHex_any _ _).mono ?_; rintro e w' ⟨rfl, hw'⟩; subst hw') | (go_at_call 15; refine (zzVal_any _ _ (by omega) (by omega)).mono ?_; rintro e w' ⟨rfl, hw'⟩; subst hw'))
        go_roundw
        case rel => exact ⟨k + 1, by omega, by go_num, by rw [D.out.1], by rw [D.out.2], R.out, HB.out.setCell (Nat.le_refl _) _⟩
        case measure => simp [intOf]; omega
      · have d1 : cD (k + 1) = cD k := by simp [cD, e1]
        have d2 : cH (k + 1) = cH k := by simp [cH, e2]
        have R : Hid (wr.rowIs w.heap.size 36 16 (fun v => .int .i64 (per (k + 1) v))) := same_row HR.out b1
        have D : Hid (cD (k + 1) = cD k ∧ cH (k + 1) = cH k) := ⟨d1, d2⟩
        clear d1 d2
        go_wp2_with (first | (go_at_call 13; refine (zzDigit_any _ _).mono ?_; rintro e w' ⟨rfl, hw'⟩; subst hw') | (go_at_call 14; refine (zzHex_any _ _).mono ?_; rintro e w' ⟨rfl, hw'⟩; subst hw') | (go_at_call 15; refine (zzVal_any _ _ (by omega) (by omega)).mono ?_; rintro e w' ⟨rfl, hw'⟩; subst hw'))
        go_roundw
        case rel => exact ⟨k + 1, by omega, by go_num, by rw [D.out.1], by rw [D.out.2], R.out, HB.out⟩
        case measure => simp [intOf]; omega
    · obtain rfl : k = 256 := by omega
      have a1 := cD_all
      have a2 := cH_all
      clear bd0 bd1 bh0 bh1 hlt hk
      have HP : Hid (∀ v, v < 16 → wr.cell? ⟨w.heap.size, v, none⟩ = some (.int .i64 (if v < 10 then 1 else 2))) := fun v hv => by rw [← per_all v hv]; exact HR.out.cell hv
      clear HR
      go_wp2
      go_loop [9] (fun i => ∃ k : Nat, k ≤ 16 ∧ i = .int .i64 k) (fun i => 16 - (intOf i).toNat)
      case atStart => exact ⟨0, Nat.zero_le _, rfl⟩
      case round =>
        obtain ⟨k, hk, rfl⟩ := hrel
        by_cases hlt : k < 16
        · by_cases h10 : k < 10
          · have c0 : wr.cell? ⟨w.heap.size, k, none⟩ = some (.int .i64 1) := by have := HP.out k hlt; rwa [if_pos h10] at this
            go_wp2
            go_round
            case rel => exact ⟨k + 1, by omega, by go_num⟩
            case measure => simp [intOf]; omega
          · have c0 : wr.cell? ⟨w.heap.size, k, none⟩ = some (.int .i64 2) := by have := HP.out k hlt; rwa [if_neg h10] at this
            go_wp2
            go_round
            case rel => exact ⟨k + 1, by omega, by go_num⟩
            case measure => simp [intOf]; omega
        · go_wp2
          go_ret
          exact ⟨rfl, HB.out⟩
end Go.Proofs.Qxb6615880a
