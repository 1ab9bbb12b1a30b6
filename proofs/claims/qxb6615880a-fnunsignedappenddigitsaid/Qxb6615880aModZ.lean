/- zzModelUnsigned (9): the text "0". -/
import Derived.Test.Qxb6615880aModD
import Derived.Test.Qxb6615880aF5
namespace Go.Proofs.Qxb6615880a
open Go.RowKit

theorem finish_z (n : Int) (tail : ByteArray) (w : World) : Calls Try.prog 18 #[.int .i64 n, .string tail] w fun e w' => RetM (unsOf n tail ⟨#[]⟩ ⟨#[]⟩) e ∧ w = w' :=
  (finish_any n tail w).mono fun _ _ h => ⟨h.1, h.2.symm⟩
theorem strip_z (s : ByteArray) (w : World) (hs : s.size = 0) : Calls Try.prog 17 #[.string s] w fun e w' => e = .returned (.string ⟨#[]⟩) ∧ w = w' := by
  refine (strip_any s w (by rw [hs]; exact Nat.zero_le _)).mono fun e w' h => ?_
  obtain ⟨⟨t, rfl, ht⟩, rfl⟩ := h
  have hl : s.data.toList = [] := List.eq_nil_of_length_eq_zero (by simpa using hs)
  rw [hl] at ht
  obtain rfl : t = ⟨#[]⟩ := by cases t with | mk d => simp at ht; rw [ht]
  exact ⟨rfl, rfl⟩

theorem one_byte {s : ByteArray} (h : s.size = 1) (h48 : (s[0].toNat : Int) = 48) : s = ⟨#[48]⟩ := by
  have hl : s.data.toList = [s[0]] := (list_cons s (by omega)).trans (by rw [List.drop_eq_nil_of_le (by simp; omega)])
  have e : s[0] = 48 := UInt8.toNat_inj.1 (by simpa using Int.ofNat.inj h48)
  rw [e] at hl
  cases s with | mk d =>
    have : d = #[48] := Array.toList_inj.1 hl
    rw [this]

set_option maxRecDepth 10000 in
set_option maxHeartbeats 2000000 in
theorem mod_zero (s : ByteArray) (w : World) (h : s.size = 1) (h48 : (s[0].toNat : Int) = 48) : Calls Try.prog 9 #[.string s] w fun e w' => RetM (uns s) e ∧ ∃ n, w' = w.drewN n := by
  have HU : Hid (uns s = (0, ⟨#[]⟩, ⟨#[]⟩)) := by show uns s = _; rw [one_byte h h48]; exact uns_one_dg 48 rfl
  have h0 : 0 < s.size := by omega
  have he : s.toList.isEmpty = false := by rw [ByteArray.toList_eq, list_cons s (by omega)]; rfl
  have h0' : (0 : Int) < (s.size : Int) := by omega
  have a1 : ¬ (s[0].toNat : Int) < 48 := by omega
  have a2 : ¬ 57 < (s[0].toNat : Int) := by omega
  have a3 : decide ((s[0].toNat : Int) < 48) = false := by simpa using a1
  have q1 : ((s[0].toNat : Int) == 48) = true := by simpa using h48
  have hsz' : decide ((2 : Int) ≤ s.size) = false := decide_eq_false (by omega)
  have hs1 : s.size ≤ 1 := by omega
  have HX : Hid (∀ wx, Calls Try.prog 17 #[.string ByteArray.empty] wx fun e w' => e = .returned (.string ⟨#[]⟩) ∧ wx = w') := fun wx => strip_z ByteArray.empty wx rfl
  obtain ⟨T, hT⟩ : ∃ r, s.extract 1 s.size = r := ⟨_, rfl⟩
  have HT : Hid (unsOf 0 T ⟨#[]⟩ ⟨#[]⟩ = (0, ⟨#[]⟩, ⟨#[]⟩)) := by
    have hl : T.data.toList = [] := by rw [← hT, extract_list, List.drop_eq_nil_of_le (by simp; omega)]
    show unsOf _ _ _ _ = _
    unfold unsOf
    rw [if_neg (by rw [empty_isEmpty]; simp), if_neg (by rw [ByteArray.toList_eq, hl]; simp)]
  clear h h48
  go_enter Try.func9, Try.ntmps9
  go_wp2_with fail
  go_loop [9] (fun i => i = .int .i64 1) (fun i => 0)
  case atStart => rfl
  case round =>
    subst hrel
    go_wp2_with fail
    go_loop [12] (fun i => i = .int .i64 0) (fun i => 0)
    case atStart => rfl
    case round =>
      subst hrel
      go_wp2_with fail
      refine (HX.out _).mono ?_
      rintro e w' ⟨rfl, rfl⟩
      go_wp2_with fail
      go_loop [14, 15] (fun v i => v = .int .i64 0 ∧ i = .int .i64 0) (fun _ i => 0)
      case atStart => exact ⟨rfl, rfl⟩
      case round =>
        obtain ⟨rfl, rfl⟩ := hrel
        go_wp2_with fail
        refine (finish_z _ _ _).mono ?_
        rintro e w' ⟨he, rfl⟩
        unfold RetM at he
        rw [HT.out] at he
        subst he
        go_wp2
        go_ret3
        exact ⟨by rw [HU.out]; rfl, 0, rfl⟩
end Go.Proofs.Qxb6615880a
