/- A byte put behind a well-formed number: the plain law. No Go in sight (but for the functions that the walks have named). -/
import Derived.Test.Qxb6615880aModD
namespace Go.Proofs.Qxb6615880a

theorem isEmpty_iff (s : ByteArray) : s.toList.isEmpty = true ↔ s.data.toList = [] := by rw [ByteArray.toList_eq]; exact List.isEmpty_iff
theorem bEmpty_ne : bEmpty.toList.isEmpty = false := by rw [ByteArray.toList_eq]; rfl
theorem bNoDigit_ne : bNoDigit.toList.isEmpty = false := by rw [ByteArray.toList_eq]; rfl
theorem bAfter_ne : bAfter.toList.isEmpty = false := by rw [ByteArray.toList_eq]; rfl

theorem extract_self (s : ByteArray) : s.extract 0 s.size = s := by
  have h : (s.extract 0 s.size).data.toList = s.data.toList := by rw [extract_list]; rfl
  exact congrArg ByteArray.mk (Array.toList_inj.1 h)

theorem runEnd_le (p : UInt8 → Bool) (l : List UInt8) (st : Nat) (h : st ≤ l.length) : runEnd p l st ≤ l.length := by
  have := (List.takeWhile_prefix p (l := l.drop st)).length_le
  unfold runEnd
  rw [List.length_drop] at this
  omega

theorem numEnd_le (s : ByteArray) (h : 0 < s.size) : numEnd s ≤ s.size := by
  have e : s.data.toList.length = s.size := by simp
  unfold numEnd
  split
  · rename_i hh
    have : 2 ≤ s.data.toList.length := by
      match hl : s.data.toList, hh with
      | _ :: _ :: _, _ => simp
      | [_], hh => simp [hexHead] at hh
      | [], hh => simp [hexHead] at hh
    have := runEnd_le pHex s.data.toList 2 this
    omega
  · have := runEnd_le pDec s.data.toList 1 (by omega)
    omega

/-- WHAT A TEXT THAT READS IS. -/
theorem wf_inv {s : ByteArray} (h : (uns s).2.1.toList.isEmpty = true) :
    ∃ h0 : 0 < s.size, isDg (s[0].toNat : Int) = true ∧ numEnd s = s.size ∧ ∃ n, numVal s.data.toList = .inr n ∧ n ≤ 9223372036854775807 ∧ uns s = (n, ⟨#[]⟩, ⟨#[]⟩) := by
  have e : s.data.toList.length = s.size := by simp
  by_cases h0 : 0 < s.size
  · refine ⟨h0, ?_⟩
    by_cases h1 : isDg (s[0].toNat : Int) = true
    · have hu := uns_dg h0 h1
      obtain ⟨k, hk⟩ : ∃ k, numEnd s = k := ⟨_, rfl⟩
      have hle := numEnd_le s h0
      rw [hk] at hu hle
      obtain ⟨⟨n, p, t⟩, hl⟩ : ∃ R, lead s k = R := ⟨_, rfl⟩
      rw [hl] at hu
      simp only at hu
      rw [hu] at h
      unfold unsOf at h hu
      by_cases hp : p.toList.isEmpty = false
      · rw [if_pos hp] at h; simp [hp] at h
      · rw [if_neg hp] at h hu
        by_cases ht : (s.extract k s.size).toList.isEmpty = false
        · rw [if_pos ht] at h; simp [bAfter_ne] at h
        · rw [if_neg ht] at hu
          have ht' : (s.extract k s.size).data.toList = [] := (isEmpty_iff _).1 (by simpa using ht)
          rw [extract_list] at ht'
          have hks : k = s.size := by
            have := congrArg List.length ht'
            simp at this
            omega
          subst hks
          refine ⟨h1, hk, ?_⟩
          unfold lead at hl
          rw [extract_self] at hl
          match hn : numVal s.data.toList with
          | .inl true => rw [hn] at hl; simp [told] at hl; exact absurd bMal_ne (by rw [hl.2.1]; exact hp)
          | .inl false => rw [hn] at hl; simp [told] at hl; exact absurd bPast_ne (by rw [hl.2.1]; exact hp)
          | .inr m =>
            rw [hn] at hl
            by_cases hm : 9223372036854775807 < m
            · rw [told_past _ hm] at hl
              simp only [Prod.mk.injEq] at hl
              exact absurd bPast_ne (by rw [hl.2.1]; exact hp)
            · rw [told_ok _ (by omega)] at hl
              simp only [Prod.mk.injEq] at hl
              refine ⟨m, rfl, by omega, ?_⟩
              rw [hu, ← hl.1]
    · have hu : uns s = (0, bNoDigit, s.extract 0 1) := by unfold uns; rw [list_cons s h0]; simp only [if_neg h1]
      rw [hu] at h; simp [bNoDigit_ne] at h
  · have hl : s.data.toList = [] := List.eq_nil_of_length_eq_zero (by omega)
    have hu : uns s = (0, bEmpty, ⟨#[]⟩) := by unfold uns; rw [hl]
    rw [hu] at h; simp [bEmpty_ne] at h

/-! ### A run, one byte longer -/
theorem run_full {p : UInt8 → Bool} {l : List UInt8} {st : Nat} (hst : st ≤ l.length) (h : runEnd p l st = l.length) : ∀ c ∈ l.drop st, p c = true := by
  unfold runEnd at h
  have e : (l.drop st).takeWhile p = l.drop st := by
    have hp := List.takeWhile_prefix p (l := l.drop st)
    exact hp.eq_of_length (by rw [List.length_drop]; omega)
  intro c hc
  rw [← e] at hc
  exact (List.all_eq_true.1 List.all_takeWhile) c hc

theorem run_more {p : UInt8 → Bool} {l : List UInt8} {st : Nat} {d : UInt8} (hst : st ≤ l.length) (h : ∀ c ∈ l.drop st, p c = true) (hd : p d = true) : runEnd p (l ++ [d]) st = l.length + 1 := by
  unfold runEnd
  rw [List.drop_append_of_le_length hst, List.takeWhile_append_of_pos h, List.takeWhile_cons_of_pos hd]
  simp
  omega
theorem run_stop {p : UInt8 → Bool} {l : List UInt8} {st : Nat} {d : UInt8} (hst : st ≤ l.length) (h : ∀ c ∈ l.drop st, p c = true) (hd : p d = false) : runEnd p (l ++ [d]) st = l.length := by
  unfold runEnd
  rw [List.drop_append_of_le_length hst, List.takeWhile_append_of_pos h, List.takeWhile_cons_of_neg (by simp [hd])]
  simp
  omega

theorem rV_snoc (b : Nat) : ∀ (l : List UInt8) (d : UInt8), rV b (l ++ [d]) = rV b l * b + dn d
  | [], d => by simp [rV]
  | c :: r, d => by
    simp only [List.cons_append, rV, rV_snoc b r d, List.length_append, List.length_cons, List.length_nil]
    rw [Nat.add_mul, Nat.mul_assoc, Nat.pow_succ, Nat.add_assoc]

end Go.Proofs.Qxb6615880a
