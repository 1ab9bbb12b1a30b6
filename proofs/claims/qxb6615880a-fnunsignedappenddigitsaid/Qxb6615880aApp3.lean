/- A byte put behind a well-formed number: the plain law, 3: decimal and octal; all cases. -/
import Derived.Test.Qxb6615880aApp2
namespace Go.Proofs.Qxb6615880a

theorem pDec_iff (d : UInt8) : pDec d = true ↔ dval d.toNat < 10 := by
  unfold pDec
  rcases kinds (d.toNat : Int) with ⟨e1, _, _, e, _⟩ | ⟨e1, _, e, _⟩ | ⟨e1, _, e⟩
  · simp [e1]; exact e
  · simp [e1]; omega
  · simp [e1]; omega

theorem hexHead_iff {s : ByteArray} (h2 : 1 < s.size) : hexHead s.data.toList = true ↔ (s[0].toNat : Int) = 48 ∧ ((s[1].toNat : Int) = 120 ∨ (s[1].toNat : Int) = 88) := by
  have hl : s.data.toList = s[0] :: s[1] :: s.data.toList.drop 2 := (list_cons s (by omega)).trans (by rw [drop_at s 1 h2])
  rw [hl]; simp [hexHead]

/-- The run of a text whose head is not '0x'. -/
theorem run_dec {s : ByteArray} (h0 : 0 < s.size) (hh : hexHead s.data.toList = false) (hk : numEnd s = s.size) : ∀ c ∈ s.data.toList.drop 1, pDec c = true := by
  have e1 : s.data.toList.length = s.size := by simp
  refine run_full (by omega) ?_
  rw [e1, ← hk]
  unfold numEnd; rw [hh]; simp

theorem numEnd_t {t : ByteArray} (hh : hexHead t.data.toList = false) : numEnd t = runEnd pDec t.data.toList 1 := by unfold numEnd; rw [hh]; simp

/-- Decimal. -/
theorem app_dec {s t : ByteArray} {d : UInt8} (h0 : 0 < s.size) (h1 : isDg (s[0].toNat : Int) = true) (h3 : ¬ (s[0].toNat : Int) = 48) (hk : numEnd s = s.size) {n : Int} (hn : numVal s.data.toList = .inr n) (hm : n ≤ 9223372036854775807)
    (ht : t.data.toList = s.data.toList ++ [d]) :
    (10 ≤ dval d.toNat → uns t = (0, bAfter, ⟨#[d]⟩)) ∧ (dval d.toNat < 10 → uns t = more n 10 (dval d.toNat) t) ∧ 0 ≤ n := by
  have e1 : s.data.toList.length = s.size := by simp
  have hz := t_size ht
  obtain ⟨r, hl⟩ : ∃ r, s.data.toList = s[0] :: r := ⟨_, list_cons s h0⟩
  have hh : ∀ x, hexHead (s[0] :: x) = false := by
    intro x
    match x with
    | [] => rfl
    | y :: _ => simp [hexHead, h3]
  have hall := run_dec h0 (by rw [hl]; exact hh r) hk
  have hall' : ∀ c ∈ s.data.toList, dn c < 10 := by
    intro c hc
    rw [hl] at hc hall
    rcases List.mem_cons.1 hc with rfl | hc
    · exact dn_dg_lt h1
    · exact dn_dg_lt (hall c (by simpa using hc))
  have hT : numEnd t = runEnd pDec t.data.toList 1 := numEnd_t (by rw [ht, hl]; exact hh _)
  have hv : n = (rV 10 s.data.toList : Int) := by
    have e : numVal s.data.toList = scan 10 0 s.data.toList := by rw [hl]; exact numVal_ten h3
    rw [e] at hn
    have := scan_zero (b := 10) (by omega) hall'
    rw [show ((10 : Nat) : Int) = 10 from rfl, hn] at this
    split at this
    · exact Sum.inr.inj this
    · cases this
  refine ⟨fun hv16 => ?_, fun hv16 => ?_, by rw [hv]; omega⟩
  · refine app_stop h0 h1 ht ?_ hn hm
    rw [hT, ht, run_stop (by omega) hall ?_, e1]
    cases hp : pDec d
    · rfl
    · have := (pDec_iff d).1 hp; omega
  · have hp : pDec d = true := (pDec_iff d).2 hv16
    rw [app_run h0 h1 ht (by rw [hT, ht, run_more (by omega) hall hp]; omega)]
    have e2 : numVal t.data.toList = scan 10 0 (s.data.toList ++ [d]) := by
      rw [ht, hl]; exact numVal_ten h3
    have e3 := told_more (b := 10) (by omega) t hall' (d := d) (by have := dn_int d; omega)
    rw [show ((10 : Nat) : Int) = 10 from rfl] at e3
    rw [e2, e3, hv]
    exact unsOf_more (tail_empty t)

/-- In octal, what reads has octal digits alone. -/
theorem oct_good : ∀ {l : List UInt8} {n : Int} (m : Int), scan 8 m l = .inr n → ∀ c ∈ l, dn c < 8
  | [], _, _, _ => by intro c hc; simp at hc
  | c :: r, n, m, h => by
    intro x hx
    by_cases hb : (8 : Int) ≤ dval c.toNat
    · rw [scan_cons_bad hb] at h; cases h
    · by_cases hp : (18446744073709551615 - dval c.toNat) / 8 < m
      · rw [scan_cons_past hb hp] at h; cases h
      · rw [scan_cons_go hb hp] at h
        rcases List.mem_cons.1 hx with rfl | hx
        · have := dn_int x; omega
        · exact oct_good _ h x hx

/-- Octal. -/
theorem app_oct {s t : ByteArray} {d : UInt8} (h0 : 0 < s.size) (h3 : (s[0].toNat : Int) = 48) (hh : hexHead s.data.toList = false) (hk : numEnd s = s.size) {n : Int} (hn : numVal s.data.toList = .inr n) (hm : n ≤ 9223372036854775807)
    (ht : t.data.toList = s.data.toList ++ [d]) (hx : ¬ (s.size = 1 ∧ ((d.toNat : Int) = 120 ∨ (d.toNat : Int) = 88))) :
    (10 ≤ dval d.toNat → uns t = (0, bAfter, ⟨#[d]⟩)) ∧ (8 ≤ dval d.toNat → dval d.toNat < 10 → uns t = (0, bMal, t)) ∧ (dval d.toNat < 8 → uns t = more n 8 (dval d.toNat) t) ∧ 0 ≤ n := by
  have e1 : s.data.toList.length = s.size := by simp
  have h1 : isDg (s[0].toNat : Int) = true := (isDg_iff _).2 (by omega)
  have hz := t_size ht
  have hall := run_dec h0 hh hk
  obtain ⟨r, hr⟩ : ∃ r, s.data.toList.drop 1 = r := ⟨_, rfl⟩
  have hl : s.data.toList = s[0] :: r := by rw [← hr]; exact list_cons s h0
  have hlen : r.length + 1 = s.size := by rw [← e1, hl]; rfl
  rw [hr] at hall
  have hdg : ∀ c ∈ r, isDg (c.toNat : Int) = true := fun c hc => hall c hc
  have hht : hexHead t.data.toList = false := by
    rw [ht, hl]
    match r, hall, hlen with
    | [], _, hlen =>
      have hs1 : s.size = 1 := by simpa using hlen.symm
      have : ¬ ((d.toNat : Int) = 120 ∨ (d.toNat : Int) = 88) := fun h => hx ⟨hs1, h⟩
      simp [hexHead, h3]
      omega
    | y :: _, hall, _ =>
      have := (isDg_iff _).1 (hall y (by simp))
      simp [hexHead, h3]
      omega
  have hT : numEnd t = runEnd pDec t.data.toList 1 := numEnd_t hht
  have hnum : ∀ x : List UInt8, (∀ c ∈ x, isDg (c.toNat : Int) = true) → numVal (s[0] :: x) = scan 8 0 x := by
    intro x hx
    refine numVal_eight h3 ?_
    match x, hx with
    | [], _ => exact Or.inl (by simp)
    | c :: y, hx => exact Or.inr ⟨c, y, rfl, hx c (by simp)⟩
  have hs8 : scan 8 0 r = .inr n := by rw [← hnum r hdg, ← hl]; exact hn
  have hall8 : ∀ c ∈ r, dn c < 8 := oct_good 0 hs8
  have hv : n = (rV 8 r : Int) := by
    have := scan_zero (b := 8) (by omega) hall8
    rw [show ((8 : Nat) : Int) = 8 from rfl, hs8] at this
    split at this
    · exact Sum.inr.inj this
    · cases this
  have hdrop : ∀ c ∈ s.data.toList.drop 1, pDec c = true := by rw [hr]; exact hall
  refine ⟨fun hv10 => ?_, fun hv8 hv10 => ?_, fun hv8 => ?_, by rw [hv]; omega⟩
  · refine app_stop h0 h1 ht ?_ hn hm
    rw [hT, ht, run_stop (by omega) hdrop ?_, e1]
    cases hp : pDec d
    · rfl
    · have := (pDec_iff d).1 hp; omega
  all_goals
    have hp : pDec d = true := (pDec_iff d).2 (by omega)
    have hdg2 : ∀ c ∈ r ++ [d], isDg (c.toNat : Int) = true := by
      intro c hc
      rcases List.mem_append.1 hc with h | h
      · exact hdg c h
      · simp at h; subst h; exact hp
    rw [app_run h0 h1 ht (by rw [hT, ht, run_more (by omega) hdrop hp]; omega)]
    have e2 : numVal t.data.toList = scan 8 0 (r ++ [d]) := by rw [ht, hl]; exact hnum _ hdg2
    rw [e2]
  · have e3 := told_bad (b := 8) (by omega) t hall8 (c := d) (r := []) (by have := dn_int d; omega)
    rw [show ((8 : Nat) : Int) = 8 from rfl, if_pos (by omega)] at e3
    rw [e3]
    exact unsOf_bad bMal_ne
  · have e3 := told_more (b := 8) (by omega) t hall8 (d := d) (by have := dn_int d; omega)
    rw [show ((8 : Nat) : Int) = 8 from rfl] at e3
    rw [e3, hv]
    exact unsOf_more (tail_empty t)

/-- "0" and 'x'. -/
theorem app_x {s t : ByteArray} {d : UInt8} (hs : s.size = 1) (h3 : (s[0].toNat : Int) = 48) (hd : (d.toNat : Int) = 120 ∨ (d.toNat : Int) = 88) (ht : t.data.toList = s.data.toList ++ [d]) : uns t = (0, bMal, t) := by
  have hz := t_size ht
  obtain ⟨h0', e⟩ := t_head (by omega) ht
  have h2 : 1 < t.size := by omega
  have hl : s.data.toList = [s[0]] := (list_cons s (by omega)).trans (by rw [List.drop_eq_nil_of_le (by simp; omega)])
  have ht2 : t.data.toList = [s[0], d] := by rw [ht, hl]; rfl
  have e1 : t[1] = d := by
    have h := drop_at t 1 h2
    rw [ht2] at h
    exact (List.cons.inj h).1.symm
  have hk : runEnd pHex t.data.toList 2 = 2 := runEnd_end (by omega)
  rw [uns_hex_none h2 (by rw [e]; exact h3) (by rw [e1]; exact hd) hk]
  have : t.size = 2 := by omega
  rw [← this, extract_self]

/-- THE PLAIN LAW, IN THE GO TEXT's OWN CASES. -/
theorem app_law {s t : ByteArray} {d : UInt8} (h : (uns s).2.1.toList.isEmpty = true) (ht : t.data.toList = s.data.toList ++ [d]) :
    ∃ n, uns s = (n, ⟨#[]⟩, ⟨#[]⟩) ∧ 0 ≤ n ∧ n ≤ 9223372036854775807 ∧
      ((s.size = 1 ∧ s.data.toList = [48]) ∧ ((d.toNat : Int) = 120 ∨ (d.toNat : Int) = 88) ∧ uns t = (0, bMal, t) ∨
       ¬ (s.data.toList = [48] ∧ ((d.toNat : Int) = 120 ∨ (d.toNat : Int) = 88)) ∧
        ((16 ≤ dval d.toNat ∨ 10 ≤ dval d.toNat ∧ ¬ nb s.data.toList = 16) ∧ uns t = (0, bAfter, ⟨#[d]⟩) ∨
         ¬ (16 ≤ dval d.toNat ∨ 10 ≤ dval d.toNat ∧ ¬ nb s.data.toList = 16) ∧ nb s.data.toList ≤ dval d.toNat ∧ uns t = (0, bMal, t) ∨
         ¬ (16 ≤ dval d.toNat ∨ 10 ≤ dval d.toNat ∧ ¬ nb s.data.toList = 16) ∧ ¬ nb s.data.toList ≤ dval d.toNat ∧ uns t = more n (nb s.data.toList) (dval d.toNat) t)) := by
  obtain ⟨h0, h1, hk, n, hn, hm, hu⟩ := wf_inv h
  have hl := list_cons s h0
  refine ⟨n, hu, ?_⟩
  by_cases hh : hexHead s.data.toList = true
  · -- hexadecimal
    have h2 : 1 < s.size := by
      apply Classical.byContradiction
      intro hc
      have : s.data.toList = [s[0]] := hl.trans (by rw [List.drop_eq_nil_of_le (by simp; omega)])
      rw [this] at hh; simp [hexHead] at hh
    have h4 := (hexHead_iff h2).1 hh
    obtain ⟨a1, a2, a3⟩ := app_hex h2 h4.1 h4.2 hk hn hm ht
    have hnb : nb s.data.toList = 16 := by rw [hl] at hh ⊢; simp only [nb, if_pos hh]
    have hne : ¬ s.data.toList = [48] := by intro e; rw [e] at hh; simp [hexHead] at hh
    refine ⟨a3, hm, Or.inr ⟨fun hc => hne hc.1, ?_⟩⟩
    rw [hnb]
    by_cases hv : 16 ≤ dval d.toNat
    · exact Or.inl ⟨Or.inl hv, a1 hv⟩
    · exact Or.inr (Or.inr ⟨by omega, by omega, a2 (by omega)⟩)
  · have hh' : hexHead s.data.toList = false := by simpa using hh
    by_cases h3 : (s[0].toNat : Int) = 48
    · have hnb : nb s.data.toList = 8 := by rw [hl] at hh ⊢; simp only [nb, if_neg hh, if_pos h3]
      by_cases hx : s.size = 1 ∧ ((d.toNat : Int) = 120 ∨ (d.toNat : Int) = 88)
      · have hs48 : s.data.toList = [48] := by
          have : s.data.toList = [s[0]] := hl.trans (by rw [List.drop_eq_nil_of_le (by simp; omega)])
          rw [this]
          congr 1
          exact UInt8.toNat_inj.1 (by simpa using Int.ofNat.inj h3)
        have hn0 : 0 ≤ n := by
          rw [hs48] at hn
          simp only [numVal] at hn
          rw [if_pos (show ((UInt8.toNat 48 : Nat) : Int) = 48 from rfl)] at hn
          simp only [scan] at hn
          have := Sum.inr.inj hn
          omega
        exact ⟨hn0, hm, Or.inl ⟨⟨hx.1, hs48⟩, hx.2, app_x hx.1 h3 hx.2 ht⟩⟩
      · obtain ⟨a1, a2, a3, a4⟩ := app_oct h0 h3 hh' hk hn hm ht hx
        have hne : ¬ (s.data.toList = [48] ∧ ((d.toNat : Int) = 120 ∨ (d.toNat : Int) = 88)) := by
          intro hc
          refine hx ⟨?_, hc.2⟩
          have := congrArg List.length hc.1
          simpa using this
        refine ⟨a4, hm, Or.inr ⟨hne, ?_⟩⟩
        rw [hnb]
        by_cases hv : 10 ≤ dval d.toNat
        · exact Or.inl ⟨by omega, a1 hv⟩
        · by_cases hv8 : 8 ≤ dval d.toNat
          · exact Or.inr (Or.inl ⟨by omega, hv8, a2 hv8 (by omega)⟩)
          · exact Or.inr (Or.inr ⟨by omega, hv8, a3 (by omega)⟩)
    · have hnb : nb s.data.toList = 10 := by rw [hl] at hh ⊢; simp only [nb, if_neg hh, if_neg h3]
      obtain ⟨a1, a2, a3⟩ := app_dec h0 h1 h3 hk hn hm ht
      have hne : ¬ (s.data.toList = [48] ∧ ((d.toNat : Int) = 120 ∨ (d.toNat : Int) = 88)) := by
        intro hc
        rw [hl] at hc
        have := (List.cons.inj hc.1).1
        rw [this] at h3
        exact h3 rfl
      refine ⟨a3, hm, Or.inr ⟨hne, ?_⟩⟩
      rw [hnb]
      by_cases hv : 10 ≤ dval d.toNat
      · exact Or.inl ⟨by omega, a1 hv⟩
      · exact Or.inr (Or.inr ⟨by omega, by omega, a2 (by omega)⟩)
end Go.Proofs.Qxb6615880a
