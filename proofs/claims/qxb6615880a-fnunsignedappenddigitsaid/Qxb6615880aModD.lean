/- zzModelUnsigned (9): the decimal and the octal branches: the plain law. -/
import Derived.Test.Qxb6615880aModH
import Derived.Test.Qxb6615880aOr
namespace Go.Proofs.Qxb6615880a
open Go.RowKit

/-- Not '0x..'. -/
def NotHex (s : ByteArray) : Prop := s.size ≤ 1 ∨ ∃ h : 1 < s.size, ¬ (s[0].toNat : Int) = 48 ∨ ((s[0].toNat : Int) = 48 ∧ ¬ (s[1].toNat : Int) = 120 ∧ ¬ (s[1].toNat : Int) = 88)

theorem numEnd_dec {s : ByteArray} (h0 : 0 < s.size) (hn : NotHex s) : numEnd s = runEnd pDec s.data.toList 1 := by
  unfold numEnd; rw [if_neg]
  rcases hn with h | ⟨h2, hn⟩
  · have hl : s.data.toList = [s[0]] := (list_cons s h0).trans (by rw [List.drop_eq_nil_of_le (by simp; omega)])
    rw [hl]; simp [hexHead]
  · have hl : s.data.toList = s[0] :: s[1] :: s.data.toList.drop 2 := (list_cons s h0).trans (by rw [drop_at s 1 h2])
    rw [hl]
    rcases hn with h | ⟨h, h', h''⟩
    · simp [hexHead, h]
    · simp [hexHead, h', h'']

theorem take1 {s : ByteArray} (h0 : 0 < s.size) : s.data.toList.take 1 = [s[0]] := by rw [list_cons s h0]; rfl

/-- A decimal number's digits. -/
theorem dec_run {s : ByteArray} {k : Nat} (h0 : 0 < s.size) (h1 : isDg (s[0].toNat : Int) = true) (hk : runEnd pDec s.data.toList 1 = k) (hk1 : 1 ≤ k) :
    (s.extract 0 k).data.toList = s[0] :: (s.extract 1 k).data.toList ∧ allDg (s.extract 0 k).data.toList := by
  have e : (s.extract 0 k).data.toList = s[0] :: (s.extract 1 k).data.toList := by rw [take_split s 1 k hk1, take1 h0]; rfl
  refine ⟨e, ?_⟩
  rw [e]
  intro c hc
  rcases List.mem_cons.1 hc with rfl | hc
  · exact h1
  · exact run_all hk c hc

theorem lead_decv {s : ByteArray} {k : Nat} (h0 : 0 < s.size) (h1 : isDg (s[0].toNat : Int) = true) (h2 : ¬ (s[0].toNat : Int) = 48) (hk : runEnd pDec s.data.toList 1 = k) (hk1 : 1 ≤ k) :
    lead s k = if rV 10 (s.extract 0 k).data.toList ≤ 9223372036854775807 then ((rV 10 (s.extract 0 k).data.toList : Int), ⟨#[]⟩, ⟨#[]⟩) else (0, bPast, s.extract 0 k) := by
  obtain ⟨e, hall⟩ := dec_run h0 h1 hk hk1
  unfold lead
  have hn : numVal (s.extract 0 k).data.toList = scan 10 0 (s.extract 0 k).data.toList := by
    rw [e]; exact numVal_ten h2
  rw [hn]
  exact told_good (b := 10) (by omega) _ fun c hc => dn_dg_lt (hall c hc)

theorem dec_sig {s : ByteArray} {k : Nat} (h0 : 0 < s.size) (h1 : isDg (s[0].toNat : Int) = true) (h2 : ¬ (s[0].toNat : Int) = 48) (hk : runEnd pDec s.data.toList 1 = k) (hk1 : 1 ≤ k) : Sig 10 (s.extract 0 k).data.toList := by
  obtain ⟨e, hall⟩ := dec_run h0 h1 hk hk1
  refine ⟨fun c hc => dn_dg_lt (hall c hc), fun c r he => ?_⟩
  rw [e] at he
  obtain ⟨rfl, _⟩ := List.cons.inj he
  exact dn_pos (by simpa [isZ] using h2)

theorem uns_dec_past {s : ByteArray} {k : Nat} (h0 : 0 < s.size) (hn : NotHex s) (h1 : isDg (s[0].toNat : Int) = true) (h2 : ¬ (s[0].toNat : Int) = 48) (hk : runEnd pDec s.data.toList 1 = k) (hk1 : 1 ≤ k)
    (hv : 9223372036854775807 < rV 10 (s.extract 0 k).data.toList) : uns s = (0, bPast, s.extract 0 k) := by
  have hl := lead_decv h0 h1 h2 hk hk1
  rw [if_neg (by omega)] at hl
  rw [uns_of_lead h0 h1 ((numEnd_dec h0 hn).trans hk) hl, unsOf_bad bPast_ne]
theorem uns_dec_fits {s : ByteArray} {k : Nat} (h0 : 0 < s.size) (hn : NotHex s) (h1 : isDg (s[0].toNat : Int) = true) (h2 : ¬ (s[0].toNat : Int) = 48) (hk : runEnd pDec s.data.toList 1 = k) (hk1 : 1 ≤ k)
    (hv : rV 10 (s.extract 0 k).data.toList ≤ 9223372036854775807) : uns s = unsOf (rV 10 (s.extract 0 k).data.toList : Int) (s.extract k s.size) ⟨#[]⟩ ⟨#[]⟩ := by
  have hl := lead_decv h0 h1 h2 hk hk1
  rw [if_pos hv] at hl
  rw [uns_of_lead h0 h1 ((numEnd_dec h0 hn).trans hk) hl]

/-! ### Octal -/
def pOct (c : UInt8) : Bool := decide ((c.toNat : Int) ≤ 55)
theorem pOct_dn {c : UInt8} (h : isDg c.toNat = true) : (pOct c = true → dn c < 8) ∧ (pOct c = false → 8 ≤ dn c) := by
  have hb := (isDg_iff _).1 h
  have hd := dn_dg h
  constructor
  · intro h'; have : (c.toNat : Int) ≤ 55 := by simpa [pOct] using h'
    omega
  · intro h'; have : ¬ (c.toNat : Int) ≤ 55 := by simpa [pOct] using h'
    omega

theorem oct_numVal {s : ByteArray} {k : Nat} (h0 : 0 < s.size) (hk : runEnd pDec s.data.toList 1 = k) (hk1 : 1 ≤ k) (h2 : (s[0].toNat : Int) = 48) :
    numVal (s.extract 0 k).data.toList = scan 8 0 (s.extract 1 k).data.toList := by
  rw [take_split s 1 k hk1, take1 h0]
  have hall := run_all hk
  refine numVal_eight h2 ?_
  match hD : (s.extract 1 k).data.toList with
  | [] => exact Or.inl (by simp)
  | d :: r => rw [hD] at hall; exact Or.inr ⟨d, r, rfl, hall d (by simp)⟩

/-- All digits octal. -/
theorem lead_octv {s : ByteArray} {k : Nat} (h0 : 0 < s.size) (hk : runEnd pDec s.data.toList 1 = k) (hk1 : 1 ≤ k) (h2 : (s[0].toNat : Int) = 48) (hall : ∀ c ∈ (s.extract 1 k).data.toList, dn c < 8) :
    lead s k = if rV 8 (s.extract 1 k).data.toList ≤ 9223372036854775807 then ((rV 8 (s.extract 1 k).data.toList : Int), ⟨#[]⟩, ⟨#[]⟩) else (0, bPast, s.extract 0 k) := by
  unfold lead
  rw [oct_numVal h0 hk hk1 h2]
  exact told_good (b := 8) (by omega) _ hall

/-- A digit outside the base at place j. -/
theorem lead_octbad {s D : ByteArray} {k j : Nat} (h0 : 0 < s.size) (hk : runEnd pDec s.data.toList 1 = k) (hk1 : 1 ≤ k) (h2 : (s[0].toNat : Int) = 48) (hD : s.extract 1 k = D)
    (hj : j < D.size) (hpre : ∀ c ∈ D.data.toList.take j, dn c < 8) (hbad : 8 ≤ dn D[j]) :
    lead s k = if rV 8 (D.data.toList.take j) ≤ 18446744073709551615 then (0, bMal, s.extract 0 k) else (0, bPast, s.extract 0 k) := by
  unfold lead
  rw [oct_numVal h0 hk hk1 h2, hD]
  have e : D.data.toList = D.data.toList.take j ++ D[j] :: D.data.toList.drop (j + 1) := by
    rw [← drop_at D j hj, List.take_append_drop]
  conv => lhs; rw [e]
  exact told_bad (b := 8) (by omega) _ hpre hbad
end Go.Proofs.Qxb6615880a
