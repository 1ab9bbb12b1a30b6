/- zzModelUnsigned (9): the easy branches; the hexadecimal branch. -/
import Derived.Test.Qxb6615880aMod
namespace Go.Proofs.Qxb6615880a
open Go.RowKit

theorem extract_mid (s : ByteArray) (a b : Nat) : (s.extract a b).data.toList = (s.data.toList.drop a).take (b - a) := by
  rw [ByteArray.data_extract, Array.toList_extract, List.extract_eq_take_drop]

theorem takeWhile_take {p : UInt8 → Bool} (l : List UInt8) : l.take (l.takeWhile p).length = l.takeWhile p := (List.prefix_iff_eq_take.1 (List.takeWhile_prefix p)).symm

/-- The run's own digits. -/
theorem run_digits {p : UInt8 → Bool} {s : ByteArray} {st k : Nat} (h : runEnd p s.data.toList st = k) : (s.extract st k).data.toList = (s.data.toList.drop st).takeWhile p := by
  rw [extract_mid, ← h]
  unfold runEnd
  rw [Nat.add_sub_cancel_left, takeWhile_take]

theorem run_all {p : UInt8 → Bool} {s : ByteArray} {st k : Nat} (h : runEnd p s.data.toList st = k) : ∀ c ∈ (s.extract st k).data.toList, p c = true := by
  rw [run_digits h]
  intro c hc
  exact (List.all_eq_true.1 List.all_takeWhile) c hc

theorem pHex_dn {c : UInt8} (h : pHex c = true) : dn c < 16 := by
  have hd := dn_int c
  unfold pHex at h
  rcases kinds (c.toNat : Int) with ⟨_, _, _, e, _⟩ | ⟨_, _, _, e⟩ | ⟨e1, e2, _⟩
  · omega
  · omega
  · simp [e1, e2] at h

theorem take_split (s : ByteArray) (st k : Nat) (h : st ≤ k) : (s.extract 0 k).data.toList = s.data.toList.take st ++ (s.extract st k).data.toList := by
  rw [extract_list0, extract_mid, List.take_drop, Nat.add_sub_cancel' h]
  rw [← List.take_append_drop st (List.take k s.data.toList)]
  congr 1
  · rw [List.take_take, Nat.min_eq_left h]
  · rw [List.take_append_drop]

theorem unsOf_bad {n : Int} {tail p t : ByteArray} (h : p.toList.isEmpty = false) : unsOf n tail p t = (0, p, t) := by unfold unsOf; rw [if_pos h]
theorem bMal_ne : bMal.toList.isEmpty = false := by rw [ByteArray.toList_eq]; rfl
theorem bPast_ne : bPast.toList.isEmpty = false := by rw [ByteArray.toList_eq]; rfl

theorem uns_dg {s : ByteArray} (h0 : 0 < s.size) (h1 : isDg (s[0].toNat : Int) = true) : uns s = unsOf (lead s (numEnd s)).1 (s.extract (numEnd s) s.size) (lead s (numEnd s)).2.1 (lead s (numEnd s)).2.2 := by
  unfold uns; rw [list_cons s h0]; simp only [if_pos h1]

theorem uns_of_lead {s : ByteArray} {k : Nat} {n : Int} {p t : ByteArray} (h0 : 0 < s.size) (h1 : isDg (s[0].toNat : Int) = true) (hk : numEnd s = k) (hl : lead s k = (n, p, t)) : uns s = unsOf n (s.extract k s.size) p t := by
  rw [uns_dg h0 h1, hk, hl]

theorem numEnd_hex {s : ByteArray} (h2 : 1 < s.size) (h3 : (s[0].toNat : Int) = 48) (h4 : (s[1].toNat : Int) = 120 ∨ (s[1].toNat : Int) = 88) : numEnd s = runEnd pHex s.data.toList 2 := by
  have hl : s.data.toList = s[0] :: s[1] :: s.data.toList.drop 2 := (list_cons s (by omega)).trans (by rw [drop_at s 1 h2])
  unfold numEnd; rw [if_pos]; rw [hl]; simpa [hexHead, h3] using h4

theorem take2 {s : ByteArray} (h2 : 1 < s.size) : s.data.toList.take 2 = [s[0], s[1]] := by
  have hl : s.data.toList = s[0] :: s[1] :: s.data.toList.drop 2 := (list_cons s (by omega)).trans (by rw [drop_at s 1 h2])
  rw [hl]; rfl

/-- "0x" with no digit behind. -/
theorem uns_hex_none {s : ByteArray} (h2 : 1 < s.size) (h3 : (s[0].toNat : Int) = 48) (h4 : (s[1].toNat : Int) = 120 ∨ (s[1].toNat : Int) = 88) (hk : runEnd pHex s.data.toList 2 = 2) : uns s = (0, bMal, s.extract 0 2) := by
  have h1 : isDg (s[0].toNat : Int) = true := (isDg_iff _).2 (by omega)
  have hl : lead s 2 = (0, bMal, s.extract 0 2) := by
    unfold lead
    rw [extract_list0, take2 h2]
    simp only [numVal, if_pos h3]
    rw [scan_cons_bad (by rw [dval_no (by omega) (by omega) (by omega)]; omega)]
    rfl
  rw [uns_of_lead (by omega) h1 ((numEnd_hex h2 h3 h4).trans hk) hl, unsOf_bad bMal_ne]

/-- "0x" and digits. -/
theorem lead_hexv {s : ByteArray} {k : Nat} (h2 : 1 < s.size) (h3 : (s[0].toNat : Int) = 48) (h4 : (s[1].toNat : Int) = 120 ∨ (s[1].toNat : Int) = 88) (hk : runEnd pHex s.data.toList 2 = k) (hk2 : 2 < k) (hks : k ≤ s.size) :
    lead s k = if rV 16 (s.extract 2 k).data.toList ≤ 9223372036854775807 then ((rV 16 (s.extract 2 k).data.toList : Int), ⟨#[]⟩, ⟨#[]⟩) else (0, bPast, s.extract 0 k) := by
  unfold lead
  have hn : (s.extract 2 k).data.toList ≠ [] := by
    intro h
    have : (s.extract 2 k).data.toList.length = 0 := by rw [h]; rfl
    rw [extract_mid] at this
    simp at this
    omega
  have hd : isDg (s[1].toNat : Int) = false := (isDg_no _).2 (by omega)
  rw [take_split s 2 k (by omega), take2 h2]
  have hall := run_all hk
  match hD : (s.extract 2 k).data.toList, hn with
  | e :: r, _ =>
    simp only [List.cons_append, List.nil_append]
    rw [numVal_sixteen h3 hd]
    rw [hD] at hall
    exact told_good (b := 16) (by omega) _ fun c hc => pHex_dn (hall c hc)

set_option maxRecDepth 10000 in
set_option maxHeartbeats 1000000 in
theorem mod_empty (w : World) : Calls Try.prog 9 #[.string ⟨#[]⟩] w fun e w' => RetM (0, bEmpty, ⟨#[]⟩) e ∧ ∃ n, w' = w.drewN n := by
  go_enter Try.func9, Try.ntmps9
  go_wp2
  go_ret3
  exact ⟨rfl, 0, rfl⟩

set_option maxRecDepth 10000 in
set_option maxHeartbeats 1000000 in
theorem mod_no (s : ByteArray) (w : World) (hs : s.size ≤ maxLen) (h0 : 0 < s.size) (h1 : isDg (s[0].toNat : Int) = false) :
    Calls Try.prog 9 #[.string s] w fun e w' => RetM (0, bNoDigit, s.extract 0 1) e ∧ ∃ n, w' = w.drewN n := by
  have he : s.toList.isEmpty = false := by rw [ByteArray.toList_eq, list_cons s h0]; rfl
  unfold maxLen at hs
  have h0' : (0 : Int) < (s.size : Int) := by omega
  have h1' : (1 : Int) ≤ (s.size : Int) := by omega
  have hb := (isDg_no _).1 h1
  rcases (by omega : (s[0].toNat : Int) < 48 ∨ (¬ (s[0].toNat : Int) < 48 ∧ 57 < (s[0].toNat : Int))) with h | ⟨h, h'⟩
  · clear hb h1
    go_enter Try.func9, Try.ntmps9
    go_wp2_with fail
    go_quiet (fail)
    go_wp2
    go_ret3
    exact ⟨rfl, _, rfl⟩
  · clear hb h1
    have hd : decide ((s[0].toNat : Int) < 48) = false := by simpa using h
    go_enter Try.func9, Try.ntmps9
    go_wp2_with fail
    go_quiet (fail)
    go_wp2
    go_ret3
    exact ⟨rfl, _, rfl⟩
end Go.Proofs.Qxb6615880a
