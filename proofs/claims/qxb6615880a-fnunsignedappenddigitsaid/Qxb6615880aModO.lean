/- zzModelUnsigned (9): the octal branch: the walk. -/
import Derived.Test.Qxb6615880aModD
namespace Go.Proofs.Qxb6615880a
open Go.RowKit

/-- All that the octal reader stands on: the run ends at k, its digits are D, the first j of them are octal and no more; t: those j, stripped. -/
structure Oct (s D t : ByteArray) (k j : Nat) : Prop where
  h0 : 0 < s.size
  hn : NotHex s
  h48 : (s[0].toNat : Int) = 48
  hk : runEnd pDec s.data.toList 1 = k
  hk1 : 1 ≤ k
  hD : s.extract 1 k = D
  hj : runEnd pOct D.data.toList 0 = j
  hjs : j ≤ D.size
  ht : t.data.toList = (D.data.toList.take j).dropWhile isZ

theorem sizeL (t : ByteArray) : t.data.toList.length = t.size := by simp

namespace Oct
variable {s D t : ByteArray} {k j : Nat}

theorem dg (h : Oct s D t k j) : allDg D.data.toList := by intro c hc; rw [← h.hD] at hc; exact run_all h.hk c hc
theorem take_eq (h : Oct s D t k j) : D.data.toList.take j = D.data.toList.takeWhile pOct := by
  have := h.hj
  unfold runEnd at this
  rw [Nat.zero_add, List.drop_zero] at this
  rw [← this, takeWhile_take]
theorem pre (h : Oct s D t k j) : ∀ c ∈ D.data.toList.take j, dn c < 8 ∧ 48 ≤ (c.toNat : Int) ∧ (c.toNat : Int) ≤ 55 := by
  intro c hc
  have hd := h.dg c (List.mem_of_mem_take hc)
  rw [h.take_eq] at hc
  have hp := (List.all_eq_true.1 List.all_takeWhile) c hc
  have hb := (isDg_iff _).1 hd
  exact ⟨(pOct_dn hd).1 hp, hb.1, by simpa [pOct] using hp⟩
theorem digits (h : Oct s D t k j) : ∀ c ∈ t.data.toList, dn c < 8 ∧ 48 ≤ (c.toNat : Int) ∧ (c.toNat : Int) ≤ 55 := by
  intro c hc; rw [h.ht] at hc; exact h.pre c (mem_dropWhile hc)
theorem sig (h : Oct s D t k j) : Sig 8 t.data.toList := by rw [h.ht]; exact sig_strip fun c hc => (h.pre c hc).1
theorem val (h : Oct s D t k j) : rV 8 t.data.toList = rV 8 (D.data.toList.take j) := by rw [h.ht, rV_strip]
theorem h1 (h : Oct s D t k j) : isDg (s[0]'h.h0).toNat = true := (isDg_iff _).2 (by have := h.h48; omega)
theorem size_le (h : Oct s D t k j) : t.size ≤ j := by
  have e1 : t.data.toList.length = t.size := by simp
  have := (List.dropWhile_suffix isZ (l := D.data.toList.take j)).length_le
  rw [← h.ht, List.length_take] at this
  omega

/-- The digit that stops the octal run. -/
theorem bad (h : Oct s D t k j) (hlt : j < D.size) : 8 ≤ dn D[j] := by
  have hd := h.dg D[j] (by exact List.getElem_mem (by simpa using hlt))
  refine (pOct_dn hd).2 ?_
  cases hp : pOct D[j]
  · rfl
  · exfalso
    have e1 : runEnd pOct D.data.toList 0 = runEnd pOct D.data.toList j := by
      have : ∀ i, i ≤ j → runEnd pOct D.data.toList 0 = runEnd pOct D.data.toList i := by
        intro i
        induction i with
        | zero => intro _; rfl
        | succ i ih =>
          intro hi
          rw [ih (by omega)]
          refine runEnd_step (by omega) ?_
          have hm : D[i] ∈ D.data.toList.take j := by
            refine List.mem_iff_getElem?.2 ⟨i, ?_⟩
            rw [List.getElem?_take, if_pos (by omega)]
            exact List.getElem?_eq_getElem (by simp; omega)
          have := (h.pre _ hm).2.2
          simpa [pOct] using this
      exact this j (Nat.le_refl _)
    rw [runEnd_step hlt hp] at e1
    have e2 := h.hj
    unfold runEnd at e1 e2
    omega

theorem past (h : Oct s D t k j) (hv : 18446744073709551615 < rV 8 t.data.toList) : uns s = (0, bPast, s.extract 0 k) := by
  rw [h.val] at hv
  by_cases hlt : j < D.size
  · have hl := lead_octbad h.h0 h.hk h.hk1 h.h48 h.hD hlt (fun c hc => (h.pre c hc).1) (h.bad hlt)
    rw [if_neg (by omega)] at hl
    rw [uns_of_lead h.h0 h.h1 ((numEnd_dec h.h0 h.hn).trans h.hk) hl, unsOf_bad bPast_ne]
  · have e : D.data.toList.take j = D.data.toList := List.take_of_length_le (by simp; omega)
    rw [e] at hv
    have hall : ∀ c ∈ (s.extract 1 k).data.toList, dn c < 8 := by intro c hc; rw [h.hD] at hc; exact (h.pre c (by rw [e]; exact hc)).1
    have hl := lead_octv h.h0 h.hk h.hk1 h.h48 hall
    rw [h.hD, if_neg (by omega)] at hl
    rw [uns_of_lead h.h0 h.h1 ((numEnd_dec h.h0 h.hn).trans h.hk) hl, unsOf_bad bPast_ne]

theorem mal (h : Oct s D t k j) (hv : rV 8 t.data.toList ≤ 18446744073709551615) (hlt : j < D.size) : uns s = (0, bMal, s.extract 0 k) := by
  rw [h.val] at hv
  have hl := lead_octbad h.h0 h.hk h.hk1 h.h48 h.hD hlt (fun c hc => (h.pre c hc).1) (h.bad hlt)
  rw [if_pos hv] at hl
  rw [uns_of_lead h.h0 h.h1 ((numEnd_dec h.h0 h.hn).trans h.hk) hl, unsOf_bad bMal_ne]

theorem whole (h : Oct s D t k j) (hlt : ¬ j < D.size) : lead s k = if rV 8 t.data.toList ≤ 9223372036854775807 then ((rV 8 t.data.toList : Int), ⟨#[]⟩, ⟨#[]⟩) else (0, bPast, s.extract 0 k) := by
  have e : D.data.toList.take j = D.data.toList := List.take_of_length_le (by simp; omega)
  have hv := h.val
  rw [e] at hv
  have hall : ∀ c ∈ (s.extract 1 k).data.toList, dn c < 8 := by intro c hc; rw [h.hD] at hc; exact (h.pre c (by rw [e]; exact hc)).1
  have hl := lead_octv h.h0 h.hk h.hk1 h.h48 hall
  rw [h.hD] at hl
  rw [hv]; exact hl

theorem past2 (h : Oct s D t k j) (hlt : ¬ j < D.size) (hv : 9223372036854775807 < rV 8 t.data.toList) : uns s = (0, bPast, s.extract 0 k) := by
  have hl := h.whole hlt
  rw [if_neg (by omega)] at hl
  rw [uns_of_lead h.h0 h.h1 ((numEnd_dec h.h0 h.hn).trans h.hk) hl, unsOf_bad bPast_ne]
theorem fits (h : Oct s D t k j) (hlt : ¬ j < D.size) (hv : rV 8 t.data.toList ≤ 9223372036854775807) : uns s = unsOf (rV 8 t.data.toList : Int) (s.extract k s.size) ⟨#[]⟩ ⟨#[]⟩ := by
  have hl := h.whole hlt
  rw [if_pos hv] at hl
  rw [uns_of_lead h.h0 h.h1 ((numEnd_dec h.h0 h.hn).trans h.hk) hl]

theorem uncons' (t : ByteArray) (h : 0 < t.size) : ∃ r, t.data.toList = t[0] :: r ∧ r.length + 1 = t.size := by
  refine ⟨_, list_cons t h, ?_⟩
  have : t.data.toList.length = t.size := by simp
  rw [List.length_drop]
  omega

/-- The reader's own test: past 64 bits. -/
theorem big22 (h : Oct s D t k j) (hp : 0 < t.size) (h22 : t.size = 22) (h2 : 50 ≤ (t[0].toNat : Int)) : 18446744073709551615 < rV 8 t.data.toList := by
  have hd := h.digits
  obtain ⟨r, e, hr⟩ := uncons' t hp
  have hb := hd t[0] (by rw [e]; simp)
  have hdn := dn_dg (c := t[0]) ((isDg_iff _).2 (by omega))
  rw [e]
  exact oct_past_22 (by omega) (by omega)
theorem small22 (h : Oct s D t k j) (h22 : t.size ≤ 22) (hn : ¬ ∃ hp : 0 < t.size, t.size = 22 ∧ 50 ≤ (t[0].toNat : Int)) : rV 8 t.data.toList ≤ 18446744073709551615 := by
  by_cases c5 : t.size = 22
  · have hp : 0 < t.size := by omega
    have hd := h.digits
    obtain ⟨r, e, hr⟩ := uncons' t hp
    have hb := hd t[0] (by rw [e]; simp)
    have hdn := dn_dg (c := t[0]) ((isDg_iff _).2 (by omega))
    have h2 : ¬ 50 ≤ (t[0].toNat : Int) := fun h => hn ⟨hp, c5, h⟩
    rw [e] at hd ⊢
    exact oct_u_22 (fun c hc => (hd c (by simp [hc])).1) (by omega) (by omega)
  · have := oct_fits (fun c hc => (h.digits c hc).1) (by rw [sizeL]; omega)
    omega
theorem big21 (h : Oct s D t k j) (h21 : 21 < t.size) : 9223372036854775807 < rV 8 t.data.toList :=
  oct_past_21 h.sig (by rw [sizeL]; omega)
theorem big23 (h : Oct s D t k j) (h22 : 22 < t.size) : 18446744073709551615 < rV 8 t.data.toList :=
  oct_past_long h.sig (by rw [sizeL]; omega)
theorem fits21 (h : Oct s D t k j) (h21 : t.size ≤ 21) : rV 8 t.data.toList ≤ 9223372036854775807 :=
  oct_fits (fun c hc => (h.digits c hc).1) (by rw [sizeL]; omega)

theorem at' (h : Oct s D t k j) {m : Nat} (hm : m < t.size) : 48 ≤ (t[t.size - 1 - m].toNat : Int) ∧ (t[t.size - 1 - m].toNat : Int) ≤ 55 :=
  (h.digits _ (by exact List.getElem_mem (by simp; omega))).2

theorem round (h : Oct s D t k j) (h21 : t.size ≤ 21) {m : Nat} (hm : m < t.size) :
    bits .or .i64 (rV 8 (t.data.toList.drop (t.size - m)) : Int) (wrap64 (((t[t.size - 1 - m].toNat : Int) - 48) * 2 ^ (3 * m))) = (rV 8 (t.data.toList.drop (t.size - (m + 1))) : Int) := by
  have e : (t[t.size - 1 - m].toNat : Int) - 48 = dval (t[t.size - 1 - m].toNat : Int) := (dval_dg (by have := h.at' hm; omega)).symm
  rw [e]
  exact oct_round (fun c hc => (h.digits c hc).1) (h.fits21 h21) hm
end Oct
end Go.Proofs.Qxb6615880a
