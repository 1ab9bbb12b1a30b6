/- The model reader's helpers: zzHexVal (12), zzStripZeros (17), zzFinish (18). -/
import Derived.Test.Qxb6615880aUnsigned
import Derived.Test.Qxb6615880aVal2
namespace Go.Proofs.Qxb6615880a
open Go.RowKit

theorem dval_dg {c : Int} (h : 48 ≤ c ∧ c ≤ 57) : dval c = c - 48 := by unfold dval; rw [if_pos ((isDg_iff c).2 h)]
theorem dval_lo {c : Int} (h : 97 ≤ c ∧ c ≤ 102) : dval c = c - 97 + 10 := by
  unfold dval; rw [if_neg (by rw [isDg_iff]; omega), if_pos ((isHx_iff c).2 (Or.inl h))]; unfold low; rw [if_neg (by omega)]
theorem dval_up {c : Int} (h : 65 ≤ c ∧ c ≤ 70) : dval c = c - 65 + 10 := by
  unfold dval; rw [if_neg (by rw [isDg_iff]; omega), if_pos ((isHx_iff c).2 (Or.inr h))]; unfold low; rw [if_pos (by omega)]; omega
theorem dval_no {c : Int} (h : ¬ (48 ≤ c ∧ c ≤ 57)) (h2 : ¬ (97 ≤ c ∧ c ≤ 102)) (h3 : ¬ (65 ≤ c ∧ c ≤ 70)) : dval c = 16 := by
  unfold dval; rw [if_neg (by rw [isDg_iff]; exact h), if_neg (by rw [isHx_iff]; omega)]

set_option maxHeartbeats 1000000 in
theorem hexVal_any (c : Int) (w : World) (h0 : 0 ≤ c) (h255 : c ≤ 255) : Calls Try.prog 12 #[.int .u8 c] w fun e w' => e = .returned (.int .i64 (dval c)) ∧ w' = w := by
  rcases (by omega : c < 48 ∨ (48 ≤ c ∧ c ≤ 57) ∨ (57 < c ∧ c < 65) ∨ (65 ≤ c ∧ c ≤ 70) ∨ (70 < c ∧ c < 97) ∨ (97 ≤ c ∧ c ≤ 102) ∨ 102 < c) with h | h | h | h | h | h | h
  · go_enter Try.func12, Try.ntmps12
    go_wp2
    go_ret
    exact ⟨ret_int (dval_no (by omega) (by omega) (by omega)).symm, rfl⟩
  · go_enter Try.func12, Try.ntmps12
    go_wp2
    go_ret
    exact ⟨ret_int (dval_dg h).symm, rfl⟩
  · go_enter Try.func12, Try.ntmps12
    go_wp2
    go_ret
    exact ⟨ret_int (dval_no (by omega) (by omega) (by omega)).symm, rfl⟩
  · go_enter Try.func12, Try.ntmps12
    go_wp2
    go_ret
    exact ⟨ret_int (dval_up h).symm, rfl⟩
  · go_enter Try.func12, Try.ntmps12
    go_wp2
    go_ret
    exact ⟨ret_int (dval_no (by omega) (by omega) (by omega)).symm, rfl⟩
  · go_enter Try.func12, Try.ntmps12
    go_wp2
    go_ret
    exact ⟨ret_int (dval_lo h).symm, rfl⟩
  · go_enter Try.func12, Try.ntmps12
    go_wp2
    go_ret
    exact ⟨ret_int (dval_no (by omega) (by omega) (by omega)).symm, rfl⟩

theorem dropWhile_drop {p : UInt8 → Bool} {s : ByteArray} {k : Nat} (h : k < s.size) (hp : p s[k] = true) : (s.data.toList.drop k).dropWhile p = (s.data.toList.drop (k + 1)).dropWhile p := by
  rw [drop_at s k h, List.dropWhile_cons_of_pos hp]
theorem dropWhile_stop {p : UInt8 → Bool} {s : ByteArray} {k : Nat} (h : k < s.size) (hp : p s[k] = false) : (s.data.toList.drop k).dropWhile p = s.data.toList.drop k := by
  rw [drop_at s k h, List.dropWhile_cons_of_neg (by simp [hp])]

/-- What zzStripZeros hands back: a string whose bytes are the digits behind the zeros ahead. -/
def RetStrip (s : ByteArray) (e : Ending) : Prop := ∃ t : ByteArray, e = .returned (.string t) ∧ t.data.toList = s.data.toList.dropWhile isZ

set_option maxHeartbeats 1000000 in
theorem strip_any (s : ByteArray) (w : World) (hs : s.size ≤ maxLen) : Calls Try.prog 17 #[.string s] w fun e w' => RetStrip s e ∧ w' = w := by
  unfold maxLen at hs
  go_enter Try.func17, Try.ntmps17
  go_wp2
  go_loop [3] (fun i => ∃ k : Nat, k ≤ s.size ∧ i = .int .i64 k ∧ Hid (s.data.toList.dropWhile isZ = (s.data.toList.drop k).dropWhile isZ)) (fun i => s.size - (intOf i).toNat)
  case atStart => exact ⟨0, Nat.zero_le _, rfl, by rw [List.drop_zero]; rfl⟩
  case round =>
    obtain ⟨k, hk, rfl, HE⟩ := hrel
    by_cases hlt : k < s.size
    · have hlt' : (k : Int) < s.size := by omega
      by_cases hz : (s[k].toNat : Int) = 48
      · have q : ((s[k].toNat : Int) == 48) = true := by simpa using hz
        have HN : Hid ((s.data.toList.drop k).dropWhile isZ = (s.data.toList.drop (k + 1)).dropWhile isZ) := dropWhile_drop hlt (by simpa [isZ] using hz)
        clear hz
        go_wp2
        go_round
        case rel => exact ⟨k + 1, by omega, by go_num, HE.out.trans HN.out⟩
        case measure => simp [intOf]; omega
      · have q : ((s[k].toNat : Int) == 48) = false := by simpa using hz
        have HN : Hid ((s.data.toList.drop k).dropWhile isZ = s.data.toList.drop k) := dropWhile_stop hlt (by simpa [isZ] using hz)
        clear hz
        go_wp2
        go_ret
        exact ⟨⟨s.extract k s.size, rfl, by rw [extract_list, HE.out, HN.out]⟩, rfl⟩
    · go_wp2
      go_ret
      exact ⟨⟨s.extract k s.size, rfl, by rw [extract_list, HE.out, List.drop_eq_nil_of_le (by simp; omega)]; rfl⟩, rfl⟩

/-- The call hands back a value and two texts. -/
def RetM (R : Int × ByteArray × ByteArray) (e : Ending) : Prop := e = .returned (.tuple #[.int .i64 R.1, .string R.2.1, .string R.2.2])

theorem empty_isEmpty : (⟨#[]⟩ : ByteArray).toList.isEmpty = true := by rw [ByteArray.toList_eq]; rfl

set_option maxHeartbeats 1000000 in
theorem finish_any (n : Int) (tail : ByteArray) (w : World) : Calls Try.prog 18 #[.int .i64 n, .string tail] w fun e w' => RetM (unsOf n tail ⟨#[]⟩ ⟨#[]⟩) e ∧ w' = w := by
  have h0 : ¬ (⟨#[]⟩ : ByteArray).toList.isEmpty = false := by rw [empty_isEmpty]; simp
  by_cases ht : tail.toList.isEmpty = false
  · have E : Hid (unsOf n tail ⟨#[]⟩ ⟨#[]⟩ = (0, bAfter, tail)) := by show unsOf _ _ _ _ = _; unfold unsOf; rw [if_neg h0, if_pos ht]
    clear h0
    go_enter Try.func18, Try.ntmps18
    go_wp2
    go_ret3
    exact ⟨by rw [E.out]; rfl, rfl⟩
  · have ht' : tail.toList.isEmpty = true := by simpa using ht
    have E : Hid (unsOf n tail ⟨#[]⟩ ⟨#[]⟩ = (n, ⟨#[]⟩, ⟨#[]⟩)) := by show unsOf _ _ _ _ = _; unfold unsOf; rw [if_neg h0, if_neg ht]
    clear h0 ht
    go_enter Try.func18, Try.ntmps18
    go_wp2
    go_ret3
    exact ⟨by rw [E.out]; rfl, rfl⟩
end Go.Proofs.Qxb6615880a
