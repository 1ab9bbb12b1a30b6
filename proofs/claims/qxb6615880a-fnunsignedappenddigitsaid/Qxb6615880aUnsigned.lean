/- Unsigned (8): the contract. -/
import Derived.Test.Qxb6615880aLead
namespace Go.Proofs.Qxb6615880a
open Go.RowKit

/-- What Unsigned makes of leadingNumber's answer. -/
def unsOf (n : Int) (tail p t : ByteArray) : Int × ByteArray × ByteArray :=
  if p.toList.isEmpty = false then (0, p, t) else if tail.toList.isEmpty = false then (0, bAfter, tail) else (n, ⟨#[]⟩, ⟨#[]⟩)

theorem endBelow' {w w1 : World} {o : Obj} (h : Below (w.heap.size + 1) (w.alloc o) w1) (o2 : Obj) (u v : Value) :
    Below w.heap.size w (((w1.setCell ⟨w.heap.size, 0, none⟩ u).setCell ⟨w.heap.size, 1, none⟩ v).alloc o2) := by
  have hz : w.heap.size ≤ w1.heap.size := by have := h.size; simp at this; omega
  exact (((((Below.refl _ _).alloc (Nat.le_refl _) o).trans (h.mono (by omega))).setCell (p := ⟨w.heap.size, 0, none⟩) (Nat.le_refl _) u).setCell (p := ⟨w.heap.size, 1, none⟩) (Nat.le_refl _) v).alloc (by simpa [World.setCell] using hz) o2

set_option maxRecDepth 10000 in
set_option maxHeartbeats 1000000 in
theorem uns_empty (w : World) :
    Calls Try.prog 8 #[.string ⟨#[]⟩] w fun e w' => RetF (0, bEmpty, ⟨#[]⟩) e ∧ Below w.heap.size w w' := by
  go_enter Try.func8, Try.ntmps8
  go_wp2
  exact bodyPost_ret (v := .tuple #[.int .i64 0, .agg #[.string bEmpty, .string ⟨#[]⟩]]) (by simp [results, Try.results8, go_sem, bEmpty]) rfl ⟨rfl, (Below.refl _ _).alloc (Nat.le_refl _) _⟩

set_option maxRecDepth 10000 in
set_option maxHeartbeats 1000000 in
theorem uns_lead (s : ByteArray) (n : Int) (tail p t : ByteArray) (w : World) (h0 : s.toList.isEmpty = false)
    (h : ∀ wx, Calls Try.prog 16 #[.string s] wx fun e w' => RetL n tail p t e ∧ Below wx.heap.size wx w') :
    Calls Try.prog 8 #[.string s] w fun e w' => RetF (unsOf n tail p t) e ∧ Below w.heap.size w w' := by
  have H : Hid (∀ wx, Calls Try.prog 16 #[.string s] wx fun e w' => RetL n tail p t e ∧ Below wx.heap.size wx w') := h
  clear h
  by_cases hp : p.toList.isEmpty = false
  rotate_left
  have hp' : p.toList.isEmpty = true := by simpa using hp
  by_cases ht : tail.toList.isEmpty = false
  rotate_left
  have ht' : tail.toList.isEmpty = true := by simpa using ht
  rotate_right
  all_goals
    go_enter Try.func8, Try.ntmps8
    go_wp2_with fail
    refine (H.out _).mono ?_
    rintro e w1 ⟨he, hb⟩
    unfold RetL at he
    subst he
    obtain ⟨hc, hf⟩ := bcell hb
    have hz : w.heap.size < w1.heap.size := by have := hb.size; simp at this; omega
    have HB : Hid (Below (w.heap.size + 1) (w.alloc (Obj.cells #[Value.string { data := #[] }, Value.string { data := #[] }] 25)) w1) := by show Below (w.heap.size + 1) _ w1; simpa using hb
    clear hb
    go_wp2_with fail
  · refine bodyPost_ret (v := .tuple #[.int .i64 0, .agg #[.string bAfter, .string tail]]) (by simp [results, Try.results8, go_sem, hc, hz, bAfter]) rfl ⟨?_, endBelow' HB.out _ _ _⟩
    unfold unsOf; rw [if_neg hp, if_pos ht]; rfl
  · refine bodyPost_ret (v := .tuple #[.int .i64 n, .agg #[.string ⟨#[]⟩, .string ⟨#[]⟩]]) (by simp [results, Try.results8, go_sem, hc, hz]) rfl ⟨?_, endBelow' HB.out _ _ _⟩
    unfold unsOf; rw [if_neg hp, if_neg ht]; rfl
  · go_region
    all_goals go_wp2
    all_goals refine bodyPost_ret (v := .tuple #[.int .i64 0, .agg #[.string p, .string t]]) (by simp [results, Try.results8, go_sem, hc, hz]) rfl ⟨?_, endBelow HB.out _ _ _⟩
    all_goals unfold unsOf; rw [if_pos hp]; rfl

/-- leadingNumber's answer, whole. -/
def hexHead : List UInt8 → Bool
  | c :: d :: _ => decide ((c.toNat : Int) = 48) && (decide ((d.toNat : Int) = 120) || decide ((d.toNat : Int) = 88))
  | _ => false
def numEnd (s : ByteArray) : Nat := if hexHead s.data.toList = true then runEnd pHex s.data.toList 2 else runEnd pDec s.data.toList 1

/-- What Unsigned computes. -/
def uns (s : ByteArray) : Int × ByteArray × ByteArray :=
  match s.data.toList with
  | [] => (0, bEmpty, ⟨#[]⟩)
  | c :: _ => if isDg c.toNat = true then unsOf (lead s (numEnd s)).1 (s.extract (numEnd s) s.size) (lead s (numEnd s)).2.1 (lead s (numEnd s)).2.2 else (0, bNoDigit, s.extract 0 1)

theorem lead_any (s : ByteArray) (w : World) (hs : s.size ≤ maxLen) (h0 : 0 < s.size) (h1 : isDg (s[0].toNat : Int) = true) :
    Calls Try.prog 16 #[.string s] w fun e w' => RetL (lead s (numEnd s)).1 (s.extract (numEnd s) s.size) (lead s (numEnd s)).2.1 (lead s (numEnd s)).2.2 e ∧ Below w.heap.size w w' := by
  by_cases h2 : 1 < s.size
  · have hl : s.data.toList = s[0] :: s[1] :: s.data.toList.drop 2 := (list_cons s h0).trans (by rw [drop_at s 1 h2])
    have hh : hexHead s.data.toList = (decide ((s[0].toNat : Int) = 48) && (decide ((s[1].toNat : Int) = 120) || decide ((s[1].toNat : Int) = 88))) := by
      rw [hl]; rfl
    by_cases h3 : (s[0].toNat : Int) = 48
    · by_cases h4 : (s[1].toNat : Int) = 120 ∨ (s[1].toNat : Int) = 88
      · have e : numEnd s = runEnd pHex s.data.toList 2 := by unfold numEnd; rw [if_pos]; rw [hh]; simpa [h3] using h4
        rw [e]; exact lead_hex s w hs h2 h3 h4
      · have e : numEnd s = runEnd pDec s.data.toList 1 := by unfold numEnd; rw [if_neg]; rw [hh]; simpa [h3] using h4
        rw [e]; exact lead_dec s w hs h0 h1 (Or.inr ⟨h2, Or.inr ⟨h3, by omega, by omega⟩⟩)
    · have e : numEnd s = runEnd pDec s.data.toList 1 := by unfold numEnd; rw [if_neg]; rw [hh]; simp [h3]
      rw [e]; exact lead_dec s w hs h0 h1 (Or.inr ⟨h2, Or.inl h3⟩)
  · have e : numEnd s = runEnd pDec s.data.toList 1 := by
      unfold numEnd; rw [if_neg]
      have hl : s.data.toList = [s[0]] := (list_cons s h0).trans (by rw [List.drop_eq_nil_of_le (by simp; omega)])
      rw [hl]; simp [hexHead]
    rw [e]; exact lead_dec s w hs h0 h1 (Or.inl (by omega))

/-- THE CONTRACT OF Unsigned. -/
theorem uns_any (s : ByteArray) (w : World) (hs : s.size ≤ maxLen) : Calls Try.prog 8 #[.string s] w fun e w' => RetF (uns s) e ∧ Below w.heap.size w w' := by
  by_cases h0 : 0 < s.size
  · have hl := list_cons s h0
    have he : s.toList.isEmpty = false := by rw [ByteArray.toList_eq, hl]; rfl
    by_cases h1 : isDg (s[0].toNat : Int) = true
    · have e : uns s = unsOf (lead s (numEnd s)).1 (s.extract (numEnd s) s.size) (lead s (numEnd s)).2.1 (lead s (numEnd s)).2.2 := by
        unfold uns; rw [hl]; simp only [if_pos h1]
      rw [e]; exact uns_lead s _ _ _ _ w he fun wx => lead_any s wx hs h0 h1
    · have e : uns s = unsOf 0 ⟨#[]⟩ bNoDigit (s.extract 0 1) := by
        unfold uns; rw [hl]; simp only [if_neg h1]; unfold unsOf; rw [if_pos (by rw [ByteArray.toList_eq]; rfl)]
      rw [e]; exact uns_lead s _ _ _ _ w he fun wx => lead_no s wx hs h0 (by simpa using h1)
  · have hz : s.data.toList.length = s.size := by simp
    have hl : s.data.toList = [] := List.eq_nil_of_length_eq_zero (by omega)
    obtain rfl : s = ⟨#[]⟩ := by cases s with | mk d => simp at hl; rw [hl]
    exact uns_empty w
end Go.Proofs.Qxb6615880a
