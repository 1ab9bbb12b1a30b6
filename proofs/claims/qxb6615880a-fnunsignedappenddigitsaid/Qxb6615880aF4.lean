/- FnUnsignedAppendDigit (4): the walk. -/
import Derived.Test.Qxb6615880aModAny
import Derived.Test.Qxb6615880aApp3
namespace Go.Proofs.Qxb6615880a
open Go.RowKit

set_option maxHeartbeats 400000 in
theorem bytes10 (s : ByteArray) (d : Int) (w : World) (hs : s.size ≤ maxLen) : Calls Try.prog 10 #[.string s, .int .u8 d] w fun e w' => (e = .returned (.bool true) ∨ e = .returned (.bool false)) ∧ w = w' := by
  unfold maxLen at hs
  by_cases h : (1048576 : Int) < s.size
  · go_enter Try.func10, Try.ntmps10
    go_wp2
    go_ret
    exact ⟨Or.inr rfl, rfl⟩
  · go_enter Try.func10, Try.ntmps10
    go_wp2
    go_ret
    exact ⟨Or.inl rfl, rfl⟩

set_option maxHeartbeats 1000000 in
theorem base_any (s : ByteArray) (w : World) (hs : s.size ≤ maxLen) (h0 : 0 < s.size) : Calls Try.prog 11 #[.string s] w fun e w' => e = .returned (.int .i64 (nb s.data.toList)) ∧ w = w' := by
  unfold maxLen at hs
  have hl := list_cons s h0
  have h0' : (0 : Int) < s.size := by omega
  have h1' : (1 : Int) ≤ s.size := by omega
  by_cases h2 : (2 : Int) ≤ s.size
  · have h2' : (1 : Int) < s.size := by omega
    have hh := hexHead_iff (s := s) (by omega)
    by_cases h3 : (s[0].toNat : Int) = 48
    · have q1 : ((s[0].toNat : Int) == 48) = true := by simpa using h3
      by_cases h4 : (s[1].toNat : Int) = 120
      · have q2 : ((s[1].toNat : Int) == 120) = true := by simpa using h4
        have E : Hid (nb s.data.toList = 16) := by
          have := hh.2 ⟨h3, Or.inl h4⟩
          show nb _ = _; rw [hl] at this ⊢; simp only [nb, if_pos this]
        clear hh hl h3 h4
        go_enter Try.func11, Try.ntmps11
        go_wp2
        go_ret
        exact ⟨ret_int E.out.symm, rfl⟩
      · have q2 : ((s[1].toNat : Int) == 120) = false := by simpa using h4
        by_cases h5 : (s[1].toNat : Int) = 88
        · have q3 : ((s[1].toNat : Int) == 88) = true := by simpa using h5
          have E : Hid (nb s.data.toList = 16) := by
            have := hh.2 ⟨h3, Or.inr h5⟩
            show nb _ = _; rw [hl] at this ⊢; simp only [nb, if_pos this]
          clear hh hl h3 h4 h5
          go_enter Try.func11, Try.ntmps11
          go_wp2
          go_ret
          exact ⟨ret_int E.out.symm, rfl⟩
        · have q3 : ((s[1].toNat : Int) == 88) = false := by simpa using h5
          have E : Hid (nb s.data.toList = 8) := by
            have hn : ¬ hexHead s.data.toList = true := fun h => by have := (hh.1 h).2; omega
            show nb _ = _; rw [hl] at hn ⊢; simp only [nb, if_neg hn, if_pos h3]
          clear hh hl h3 h4 h5
          go_enter Try.func11, Try.ntmps11
          go_wp2
          go_ret
          exact ⟨ret_int E.out.symm, rfl⟩
    · have q1 : ((s[0].toNat : Int) == 48) = false := by simpa using h3
      have E : Hid (nb s.data.toList = 10) := by
        have hn : ¬ hexHead s.data.toList = true := fun h => h3 (hh.1 h).1
        show nb _ = _; rw [hl] at hn ⊢; simp only [nb, if_neg hn, if_neg h3]
      clear hh hl h3
      go_enter Try.func11, Try.ntmps11
      go_wp2
      go_ret
      exact ⟨ret_int E.out.symm, rfl⟩
  · have hd : decide ((2 : Int) ≤ s.size) = false := by simpa using h2
    have hl1 : s.data.toList = [s[0]] := hl.trans (by rw [List.drop_eq_nil_of_le (by simp; omega)])
    have hn : ¬ hexHead [s[0]] = true := by simp [hexHead]
    by_cases h3 : (s[0].toNat : Int) = 48
    · have q1 : ((s[0].toNat : Int) == 48) = true := by simpa using h3
      have E : Hid (nb s.data.toList = 8) := by show nb _ = _; rw [hl1]; simp only [nb, if_neg hn, if_pos h3]
      clear hl hl1 h3 hn
      go_enter Try.func11, Try.ntmps11
      go_wp2
      go_ret
      exact ⟨ret_int E.out.symm, rfl⟩
    · have q1 : ((s[0].toNat : Int) == 48) = false := by simpa using h3
      have E : Hid (nb s.data.toList = 10) := by show nb _ = _; rw [hl1]; simp only [nb, if_neg hn, if_neg h3]
      clear hl hl1 h3 hn
      go_enter Try.func11, Try.ntmps11
      go_wp2
      go_ret
      exact ⟨ret_int E.out.symm, rfl⟩
end Go.Proofs.Qxb6615880a
