/- A byte put behind a well-formed number: the plain law, 2. -/
import Derived.Test.Qxb6615880aApp
namespace Go.Proofs.Qxb6615880a

theorem div_lt63 {n b v : Nat} (hb : 0 < b) (hv : v ≤ 16) : ((9223372036854775807 - (v : Int)) / (b : Int) < (n : Int)) ↔ 9223372036854775807 < n * b + v := by
  have e : (9223372036854775807 - (v : Int)) = ((9223372036854775807 - v : Nat) : Int) := by omega
  rw [e, ← Int.natCast_ediv, Int.ofNat_lt, Nat.div_lt_iff_lt_mul hb]
  omega

/-- What is handed back where the byte is one more good digit. -/
def more (n b v : Int) (t : ByteArray) : Int × ByteArray × ByteArray := if (9223372036854775807 - v) / b < n then (0, bPast, t) else (n * b + v, ⟨#[]⟩, ⟨#[]⟩)

theorem told_more {b : Nat} (hb : 0 < b) (t : ByteArray) {D : List UInt8} {d : UInt8} (hD : ∀ c ∈ D, dn c < b) (hd : dn d < b) :
    told t (scan b 0 (D ++ [d])) = more (rV b D : Int) b (dval d.toNat) t := by
  have hall : ∀ c ∈ D ++ [d], dn c < b := by
    intro c hc
    rcases List.mem_append.1 hc with h | h
    · exact hD c h
    · simp at h; subst h; exact hd
  rw [told_good hb t hall, rV_snoc]
  unfold more
  rw [← dn_int]
  have hiff := div_lt63 (n := rV b D) (v := dn d) hb (dn_le d)
  by_cases h : 9223372036854775807 < rV b D * b + dn d
  · rw [if_neg (by omega), if_pos (hiff.2 h)]
  · rw [if_pos (by omega), if_neg (fun h' => h (hiff.1 h'))]
    simp

theorem unsOf_more {n b v : Int} {tail t : ByteArray} (ht : tail.toList.isEmpty = true) : unsOf (more n b v t).1 tail (more n b v t).2.1 (more n b v t).2.2 = more n b v t := by
  unfold more
  split
  · exact unsOf_bad bPast_ne
  · unfold unsOf; rw [if_neg (by simp), if_neg (by simp [ht])]

section
variable {s t : ByteArray} {d : UInt8}

theorem t_size (ht : t.data.toList = s.data.toList ++ [d]) : t.size = s.size + 1 := by
  have e1 : s.data.toList.length = s.size := by simp
  have e2 : t.data.toList.length = t.size := by simp
  rw [ht, List.length_append] at e2
  simp at e2; omega

theorem t_head (h0 : 0 < s.size) (ht : t.data.toList = s.data.toList ++ [d]) : ∃ h : 0 < t.size, t[0] = s[0] := by
  have hz := t_size ht
  refine ⟨by omega, ?_⟩
  have h1 := list_cons t (by omega)
  have h2 := list_cons s h0
  rw [ht, h2] at h1
  exact (List.cons.inj h1).1.symm

theorem t_tail (ht : t.data.toList = s.data.toList ++ [d]) : t.extract s.size t.size = ⟨#[d]⟩ := by
  have e1 : s.data.toList.length = s.size := by simp
  have h : (t.extract s.size t.size).data.toList = [d] := by rw [extract_list, ht, ← e1, List.drop_left]
  exact congrArg ByteArray.mk (Array.toList_inj.1 h)

theorem t_front (ht : t.data.toList = s.data.toList ++ [d]) : (t.extract 0 s.size).data.toList = s.data.toList := by
  have e1 : s.data.toList.length = s.size := by simp
  rw [extract_list0, ht, ← e1, List.take_left]

/-- THE BYTE ENDS THE RUN. -/
theorem app_stop (h0 : 0 < s.size) (h1 : isDg (s[0].toNat : Int) = true) (ht : t.data.toList = s.data.toList ++ [d]) (hk : numEnd t = s.size) {n : Int} (hn : numVal s.data.toList = .inr n) (hm : n ≤ 9223372036854775807) :
    uns t = (0, bAfter, ⟨#[d]⟩) := by
  obtain ⟨h0', e⟩ := t_head h0 ht
  have hl : lead t s.size = (n, ⟨#[]⟩, ⟨#[]⟩) := by
    unfold lead
    rw [t_front ht, hn, told_ok _ hm]
  rw [uns_of_lead h0' (by rw [e]; exact h1) hk hl, t_tail ht]
  unfold unsOf
  rw [if_neg (by simp), if_pos (by rw [ByteArray.toList_eq]; rfl)]

/-- THE BYTE BELONGS TO THE RUN. -/
theorem app_run (h0 : 0 < s.size) (h1 : isDg (s[0].toNat : Int) = true) (ht : t.data.toList = s.data.toList ++ [d]) (hk : numEnd t = t.size) :
    uns t = unsOf (told t (numVal t.data.toList)).1 (t.extract t.size t.size) (told t (numVal t.data.toList)).2.1 (told t (numVal t.data.toList)).2.2 := by
  obtain ⟨h0', e⟩ := t_head h0 ht
  have hu := uns_dg h0' (by rw [e]; exact h1)
  rw [hk] at hu
  unfold lead at hu
  rw [extract_self] at hu
  exact hu

theorem tail_empty (t : ByteArray) : (t.extract t.size t.size).toList.isEmpty = true := by
  rw [isEmpty_iff, extract_list, List.drop_eq_nil_of_le (by simp)]
end

/-- The base that a text's head tells. -/
def nb : List UInt8 → Int
  | c :: r => if hexHead (c :: r) = true then 16 else if (c.toNat : Int) = 48 then 8 else 10
  | [] => 10

/-- Hexadecimal. -/
theorem app_hex {s t : ByteArray} {d : UInt8} (h2 : 1 < s.size) (h3 : (s[0].toNat : Int) = 48) (h4 : (s[1].toNat : Int) = 120 ∨ (s[1].toNat : Int) = 88) (hk : numEnd s = s.size) {n : Int} (hn : numVal s.data.toList = .inr n) (hm : n ≤ 9223372036854775807)
    (ht : t.data.toList = s.data.toList ++ [d]) :
    (16 ≤ dval d.toNat → uns t = (0, bAfter, ⟨#[d]⟩)) ∧ (dval d.toNat < 16 → uns t = more n 16 (dval d.toNat) t) ∧ 0 ≤ n := by
  have e1 : s.data.toList.length = s.size := by simp
  have h0 : 0 < s.size := by omega
  have h1 : isDg (s[0].toNat : Int) = true := (isDg_iff _).2 (by omega)
  have hz := t_size ht
  have hl : s.data.toList = s[0] :: s[1] :: s.data.toList.drop 2 := (list_cons s h0).trans (by rw [drop_at s 1 h2])
  have hd1 : isDg (s[1].toNat : Int) = false := (isDg_no _).2 (by omega)
  have hall : ∀ c ∈ s.data.toList.drop 2, pHex c = true := run_full (by omega) (by rw [← numEnd_hex h2 h3 h4, hk, e1])
  have hall' : ∀ c ∈ s.data.toList.drop 2, dn c < 16 := fun c hc => pHex_dn (hall c hc)
  have hT : numEnd t = runEnd pHex t.data.toList 2 := by
    unfold numEnd; rw [if_pos]; rw [ht, hl]; simpa [hexHead, h3] using h4
  -- the value of s
  obtain ⟨D, hD⟩ : ∃ D, s.data.toList.drop 2 = D := ⟨_, rfl⟩
  rw [hD] at hl hall hall'
  match D, hall, hall', hl, hD with
  | [], _, _, hl, _ =>
    rw [hl] at hn
    simp only [numVal, if_pos h3] at hn
    rw [scan_cons_bad (by rw [dval_no (by omega) (by omega) (by omega)]; omega)] at hn
    cases hn
  | e :: r, hall, hall', hl, hD =>
    have hv : n = (rV 16 (e :: r) : Int) := by
      rw [hl, numVal_sixteen h3 hd1] at hn
      have := scan_zero (b := 16) (by omega) hall'
      rw [show ((16 : Nat) : Int) = 16 from rfl, hn] at this
      split at this
      · exact Sum.inr.inj this
      · cases this
    refine ⟨fun hv16 => ?_, fun hv16 => ?_, by rw [hv]; omega⟩
    · refine app_stop h0 h1 ht ?_ hn hm
      rw [hT, ht, run_stop (by omega) (by rw [hD]; exact hall) ?_, e1]
      cases hp : pHex d
      · rfl
      · exfalso
        have := pHex_dn hp
        have := dn_int d
        omega
    · have hp : pHex d = true := by
        unfold pHex
        rcases kinds (d.toNat : Int) with ⟨e1, _⟩ | ⟨_, e2, _⟩ | ⟨_, _, e3⟩
        · simp [e1]
        · simp [e2]
        · omega
      rw [app_run h0 h1 ht (by rw [hT, ht, run_more (by omega) (by rw [hD]; exact hall) hp]; omega)]
      have e2 : numVal t.data.toList = scan 16 0 ((e :: r) ++ [d]) := by
        rw [ht, hl]
        exact numVal_sixteen h3 hd1
      have e3 := told_more (b := 16) (by omega) t hall' (d := d) (by have := dn_int d; omega)
      rw [show ((16 : Nat) : Int) = 16 from rfl] at e3
      rw [e2, e3, hv]
      exact unsOf_more (tail_empty t)
end Go.Proofs.Qxb6615880a
