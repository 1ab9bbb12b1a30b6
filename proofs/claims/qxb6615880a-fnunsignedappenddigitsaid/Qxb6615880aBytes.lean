/- isDigit, isHexLetter, lowerASCII, digitValue: the contracts. -/
import Derived.Test.Qxb6615880aRows
import Derived.Test.Qxb6615880aPlain
import Derived.WalkKit
import Derived.WalkSpells
import Derived.WalkLawsBesides
namespace Go.Proofs.Qxb6615880a
open Go.RowKit

theorem ret_bool {a b : Bool} (h : a = b) : Ending.returned (.bool a) = .returned (.bool b) := by rw [h]
theorem ret_int {k : IntKind} {a b : Int} (h : a = b) : Ending.returned (.int k a) = .returned (.int k b) := by rw [h]

set_option maxHeartbeats 400000 in
theorem isDigit_any (c : Int) (w : World) : Calls Try.prog 19 #[.int .u8 c] w fun e w' => e = .returned (.bool (isDg c)) ∧ w' = w := by
  by_cases h1 : 48 ≤ c
  · by_cases h2 : c ≤ 57
    · go_enter Try.func19, Try.ntmps19
      go_wp2
      go_ret
      exact ⟨ret_bool ((isDg_iff c).2 ⟨h1, h2⟩).symm, rfl⟩
    · go_enter Try.func19, Try.ntmps19
      go_wp2
      go_ret
      exact ⟨ret_bool ((isDg_no c).2 (by omega)).symm, rfl⟩
  · have hd : decide (48 ≤ c) = false := by simpa using h1
    go_enter Try.func19, Try.ntmps19
    go_wp2
    go_ret
    exact ⟨ret_bool ((isDg_no c).2 (by omega)).symm, rfl⟩

set_option maxHeartbeats 400000 in
theorem isHex_any (c : Int) (w : World) : Calls Try.prog 20 #[.int .u8 c] w fun e w' => e = .returned (.bool (isHx c)) ∧ w' = w := by
  by_cases h1 : 97 ≤ c
  · by_cases h2 : c ≤ 102
    · go_enter Try.func20, Try.ntmps20
      go_wp2
      go_ret
      exact ⟨ret_bool ((isHx_iff c).2 (by omega)).symm, rfl⟩
    · have hd : decide (c ≤ 102) = false := by simpa using h2
      have h3 : 65 ≤ c := by omega
      have h4 : ¬ c ≤ 70 := by omega
      go_enter Try.func20, Try.ntmps20
      go_wp2
      go_ret
      exact ⟨ret_bool ((isHx_no c).2 (by omega)).symm, rfl⟩
  · have hd : decide (97 ≤ c) = false := by simpa using h1
    by_cases h3 : 65 ≤ c
    · by_cases h4 : c ≤ 70
      · go_enter Try.func20, Try.ntmps20
        go_wp2
        go_ret
        exact ⟨ret_bool ((isHx_iff c).2 (by omega)).symm, rfl⟩
      · go_enter Try.func20, Try.ntmps20
        go_wp2
        go_ret
        exact ⟨ret_bool ((isHx_no c).2 (by omega)).symm, rfl⟩
    · have hd3 : decide (65 ≤ c) = false := by simpa using h3
      go_enter Try.func20, Try.ntmps20
      go_wp2
      go_ret
      exact ⟨ret_bool ((isHx_no c).2 (by omega)).symm, rfl⟩

set_option maxHeartbeats 400000 in
theorem lower_any (c : Int) (w : World) (h0 : 0 ≤ c) (h255 : c ≤ 255) : Calls Try.prog 23 #[.int .u8 c] w fun e w' => e = .returned (.int .u8 (low c)) ∧ w' = w := by
  by_cases h1 : 65 ≤ c
  · by_cases h2 : c ≤ 90
    · go_enter Try.func23, Try.ntmps23
      go_wp2
      go_ret
      exact ⟨ret_int (by unfold low; rw [if_pos ⟨h1, h2⟩]; go_num), rfl⟩
    · go_enter Try.func23, Try.ntmps23
      go_wp2
      go_ret
      exact ⟨ret_int (by unfold low; rw [if_neg (by omega)]), rfl⟩
  · have hd : decide (65 ≤ c) = false := by simpa using h1
    go_enter Try.func23, Try.ntmps23
    go_wp2
    go_ret
    exact ⟨ret_int (by unfold low; rw [if_neg (by omega)]), rfl⟩

set_option maxHeartbeats 400000 in
theorem digitValue_any (c : Int) (w : World) (h0 : 0 ≤ c) (h255 : c ≤ 255) : Calls Try.prog 21 #[.int .u8 c] w fun e w' => e = .returned (.int .u64 (dval c)) ∧ w' = w := by
  have hl : isHx c = true → 97 ≤ low c ∧ low c ≤ 102 := by
    intro h; have := (isHx_iff c).1 h; unfold low; split <;> omega
  by_cases h1 : isDg c = true
  · have hb := (isDg_iff c).1 h1
    obtain ⟨b1, b2⟩ := hb
    clear hl
    go_enter Try.func21, Try.ntmps21
    go_wp2_with (go_at_call 19; refine (isDigit_any _ _).mono ?_; rintro e w' ⟨rfl, rfl⟩)
    go_ret
    exact ⟨ret_int (by unfold dval; rw [if_pos h1]), rfl⟩
  · have h1' : isDg c = false := by simpa using h1
    by_cases h2 : isHx c = true
    · obtain ⟨b1, b2⟩ := hl h2
      clear hl
      go_enter Try.func21, Try.ntmps21
      go_wp2_with (first | (go_at_call 19; refine (isDigit_any _ _).mono ?_; rintro e w' ⟨rfl, rfl⟩) | (go_at_call 20; refine (isHex_any _ _).mono ?_; rintro e w' ⟨rfl, rfl⟩) | (go_at_call 23; refine (lower_any _ _ h0 h255).mono ?_; rintro e w' ⟨rfl, rfl⟩))
      go_ret
      exact ⟨ret_int (by unfold dval; rw [if_neg h1, if_pos h2]), rfl⟩
    · have h2' : isHx c = false := by simpa using h2
      clear hl
      go_enter Try.func21, Try.ntmps21
      go_wp2_with (first | (go_at_call 19; refine (isDigit_any _ _).mono ?_; rintro e w' ⟨rfl, rfl⟩) | (go_at_call 20; refine (isHex_any _ _).mono ?_; rintro e w' ⟨rfl, rfl⟩))
      go_ret
      exact ⟨ret_int (by unfold dval; rw [if_neg h1, if_neg h2]), rfl⟩

set_option maxHeartbeats 400000 in
theorem zzDigit_any (c : Int) (w : World) : Calls Try.prog 13 #[.int .u8 c] w fun e w' => e = .returned (.bool (isDg c)) ∧ w' = w := by
  go_enter Try.func13, Try.ntmps13
  go_wp2_with (go_at_call 19; refine (isDigit_any _ _).mono ?_; rintro e w' ⟨rfl, rfl⟩)
  go_ret
  exact ⟨rfl, rfl⟩
set_option maxHeartbeats 400000 in
theorem zzHex_any (c : Int) (w : World) : Calls Try.prog 14 #[.int .u8 c] w fun e w' => e = .returned (.bool (isHx c)) ∧ w' = w := by
  go_enter Try.func14, Try.ntmps14
  go_wp2_with (go_at_call 20; refine (isHex_any _ _).mono ?_; rintro e w' ⟨rfl, rfl⟩)
  go_ret
  exact ⟨rfl, rfl⟩
set_option maxHeartbeats 400000 in
theorem zzVal_any (c : Int) (w : World) (h0 : 0 ≤ c) (h255 : c ≤ 255) : Calls Try.prog 15 #[.int .u8 c] w fun e w' => e = .returned (.int .u64 (dval c)) ∧ w' = w := by
  go_enter Try.func15, Try.ntmps15
  go_wp2_with (go_at_call 21; refine (digitValue_any _ _ h0 h255).mono ?_; rintro e w' ⟨rfl, rfl⟩)
  go_ret
  exact ⟨rfl, rfl⟩
end Go.Proofs.Qxb6615880a
