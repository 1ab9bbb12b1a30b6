/- FnIsDigitTenSingleDigitNumbers (5): the walk. -/
import Derived.Test.Qxb6615880aUnsigned
namespace Go.Proofs.Qxb6615880a
open Go.RowKit

/-- count and lo at the head of round k. -/
def cnt (k : Nat) : Int := if k ≤ 48 then 0 else if k ≤ 58 then (k : Int) - 48 else 10
def lo (k : Nat) : Int := if k ≤ 48 then -1 else 48


theorem uns_one_no (c : UInt8) (h : isDg (c.toNat : Int) = false) : uns ⟨#[c]⟩ = (0, bNoDigit, (⟨#[c]⟩ : ByteArray).extract 0 1) := by
  unfold uns
  simp [h]

theorem numVal_one (c : UInt8) (h : isDg (c.toNat : Int) = true) : numVal [c] = .inr ((c.toNat : Int) - 48) := by
  have hb := (isDg_iff _).1 h
  by_cases h0 : (c.toNat : Int) = 48
  · simp only [numVal, scan, h0]; rfl
  · have e : dval (c.toNat : Int) = (c.toNat : Int) - 48 := by unfold dval; rw [if_pos h]
    simp only [numVal, if_neg h0]
    rw [scan_cons_go (by omega) (by omega), e]
    simp only [scan]
    congr 1
    omega

theorem uns_one_dg (c : UInt8) (h : isDg (c.toNat : Int) = true) : uns ⟨#[c]⟩ = ((c.toNat : Int) - 48, ⟨#[]⟩, ⟨#[]⟩) := by
  have hb := (isDg_iff _).1 h
  have e1 : numEnd ⟨#[c]⟩ = 1 := by simp [numEnd, hexHead, runEnd]
  have e2 : lead ⟨#[c]⟩ 1 = ((c.toNat : Int) - 48, ⟨#[]⟩, ⟨#[]⟩) := by
    unfold lead
    rw [extract_list0]
    simp only [List.take_succ_cons, List.take_zero]
    rw [numVal_one c h, told_ok _ (by omega)]
  have e3 : ((⟨#[c]⟩ : ByteArray).extract 1 1).toList.isEmpty = true := by rw [ByteArray.toList_eq]; rfl
  have e4 : (⟨#[]⟩ : ByteArray).toList.isEmpty = true := by rw [ByteArray.toList_eq]; rfl
  unfold uns
  simp only [if_pos h, e1, e2]
  unfold unsOf
  have e5 : (⟨#[c]⟩ : ByteArray).size = 1 := rfl
  rw [e5, e3, e4]
  simp

/-- string([]byte{c}). -/
theorem one_str (k : Nat) (hk : k < 256) (wx : World) : (convert 31 9 (.slice (some ⟨wx.heap.size, 0, none⟩) 1 1)).run Try.prog (wx.alloc (.cells #[.int .u8 (k : Int)] 5)) = .ok (.string ⟨#[UInt8.ofNat k]⟩) (wx.alloc (.cells #[.int .u8 (k : Int)] 5)) := by
  refine run_convert_bytes_back (P := Try.prog) _ 31 9 5 ⟨wx.heap.size, 0, none⟩ 1 [UInt8.ofNat k] Try.underlying31 Try.underlying5 Try.underlying9 ?_
  intro j hj
  have hj0 : j = 0 := by simpa using hj
  subst hj0
  have e : (UInt8.ofNat k).toNat = k := by simp; omega
  simp only [List.getElem_cons_zero, e]
  rw [Addr.add_lit, World.cell?_alloc_at _ _ _ _ rfl]
  simp

set_option maxRecDepth 10000 in
set_option maxHeartbeats 2000000 in
theorem f5_any (w : World) : Calls Try.prog 5 #[] w fun e w' => e = .returned (.bool true) ∧ Below w.heap.size w w' := by
  go_enter Try.func5, Try.ntmps5
  go_wp2
  go_loopw [1, 2, 3] (fun c l i wr => ∃ k : Nat, k ≤ 256 ∧ i = .int .i64 k ∧ c = .int .i64 (cnt k) ∧ l = .int .i64 (lo k) ∧ Below w.heap.size w wr) (fun _ _ i _ => 256 - (intOf i).toNat)
  case atStart => exact ⟨0, Nat.zero_le _, rfl, rfl, rfl, Below.refl _ _⟩
  case round =>
    obtain ⟨k, hk, rfl, rfl, rfl, hbel⟩ := hrel
    have HB : Hid (Below w.heap.size w wr) := hbel
    clear hbel
    by_cases hlt : k < 256
    · have hcv := one_str k hlt
      have e : (UInt8.ofNat k).toNat = k := by simp; omega
      by_cases hd : isDg (k : Int) = true
      · have hb := (isDg_iff _).1 hd
        have U : Hid (∀ wx, Calls Try.prog 8 #[.string ⟨#[UInt8.ofNat k]⟩] wx fun e w' => RetF ((k : Int) - 48, ⟨#[]⟩, ⟨#[]⟩) e ∧ Below wx.heap.size wx w') := by
          intro wx
          have := uns_any ⟨#[UInt8.ofNat k]⟩ wx (by unfold maxLen; simp [ByteArray.size])
          rwa [uns_one_dg _ (by rw [e]; exact hd), e] at this
        clear e
        go_wp2_with (go_at_call 13; refine (zzDigit_any _ _).mono ?_; rintro e w' ⟨rfl, hw'⟩; subst hw')
        refine (U.out _).mono ?_
        rintro e w1 ⟨he, hb1⟩
        unfold RetF at he
        subst he
        have HB1 : Hid (Below w.heap.size w w1) := (HB.out.alloc HB.out.size _).trans (hb1.mono (by have := HB.out.size; simp; omega))
        clear hb1
        by_cases h48 : k = 48
        · subst h48
          have c48 : cnt 48 = 0 := rfl
          have l48 : lo 48 = -1 := rfl
          go_wp2
          go_roundw
          case rel => exact ⟨49, by omega, rfl, rfl, rfl, HB1.out.alloc HB1.out.size _⟩
          case measure => simp [intOf]
        · have hlo : lo k = 48 := by unfold lo; rw [if_neg (by omega)]
          have hcn : cnt k = (k : Int) - 48 := by unfold cnt; rw [if_neg (by omega), if_pos (by omega)]
          have H1 : Hid (cnt (k + 1) = (k : Int) - 48 + 1 ∧ lo (k + 1) = 48) := ⟨by unfold cnt; rw [if_neg (by omega), if_pos (by omega)]; omega, by unfold lo; rw [if_neg (by omega)]⟩
          go_wp2
          go_roundw
          case rel => exact ⟨k + 1, by omega, by go_num, by rw [H1.out.1], by rw [H1.out.2], HB1.out.alloc HB1.out.size _⟩
          case measure => simp [intOf]; omega
      · have U : Hid (∀ wx, Calls Try.prog 8 #[.string ⟨#[UInt8.ofNat k]⟩] wx fun e w' => RetF (0, bNoDigit, (⟨#[UInt8.ofNat k]⟩ : ByteArray).extract 0 1) e ∧ Below wx.heap.size wx w') := by
          intro wx
          have := uns_any ⟨#[UInt8.ofNat k]⟩ wx (by unfold maxLen; simp [ByteArray.size])
          rwa [uns_one_no _ (by rw [e]; simpa using hd)] at this
        have hd' : isDg (k : Int) = false := by simpa using hd
        have hb := (isDg_no _).1 hd'
        have hne : bNoDigit.toList.isEmpty = false := by rw [ByteArray.toList_eq]; rfl
        clear e hd
        go_wp2_with (go_at_call 13; refine (zzDigit_any _ _).mono ?_; rintro e w' ⟨rfl, hw'⟩; subst hw')
        refine (U.out _).mono ?_
        rintro e w1 ⟨he, hb1⟩
        unfold RetF at he
        subst he
        have HB1 : Hid (Below w.heap.size w w1) := (HB.out.alloc HB.out.size _).trans (hb1.mono (by have := HB.out.size; simp; omega))
        clear hb1
        have H1 : Hid (cnt (k + 1) = cnt k ∧ lo (k + 1) = lo k) := by
          rcases Nat.lt_or_ge k 48 with h | h
          · exact ⟨by unfold cnt; rw [if_pos (by omega), if_pos (by omega)], by unfold lo; rw [if_pos (by omega), if_pos (by omega)]⟩
          · refine ⟨?_, by unfold lo; rw [if_neg (by omega), if_neg (by omega)]⟩
            unfold cnt
            rw [if_neg (by omega), if_neg (by omega), if_neg (by omega)]
            by_cases h58 : k ≤ 58
            · rw [if_pos h58]; omega
            · rw [if_neg h58]
        go_wp2
        go_roundw
        case rel => exact ⟨k + 1, by omega, by go_num, by rw [H1.out.1], by rw [H1.out.2], HB1.out.alloc HB1.out.size _⟩
        case measure => simp [intOf]; omega
    · obtain rfl : k = 256 := by omega
      have c256 : cnt 256 = 10 := rfl
      have l256 : lo 256 = 48 := rfl
      go_wp2
      go_ret
      exact ⟨rfl, HB.out⟩
end Go.Proofs.Qxb6615880a
