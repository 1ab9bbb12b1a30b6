/- digitsValue (22): the contract. -/
import Derived.Test.Qxb6615880aBytes
import Derived.Test.Qxb6615880aUns
import Derived.Deep.QuietTactic
import Derived.BigQuiet
namespace Go.Proofs.Qxb6615880a
open Go.RowKit

theorem bel2 (w : World) (o : Obj) (n : Nat) (u v : Value) : Below w.heap.size w ((((w.alloc o).drewN n).setCell ⟨w.heap.size, 0, none⟩ u).setCell ⟨w.heap.size, 1, none⟩ v) :=
  ((below_drewN ((Below.refl _ _).alloc (Nat.le_refl _) o) n).setCell (p := ⟨w.heap.size, 0, none⟩) (Nat.le_refl _) u).setCell (p := ⟨w.heap.size, 1, none⟩) (Nat.le_refl _) v

/-- The call hands back a value and a Fault. -/
def RetF (R : Int × ByteArray × ByteArray) (e : Ending) : Prop := e = .returned (.tuple #[.int .i64 R.1, .agg #[.string R.2.1, .string R.2.2]])

set_option maxRecDepth 10000 in
set_option maxHeartbeats 1000000 in
theorem dv_ten (s : ByteArray) (w : World) (hs : s.size ≤ maxLen) (h0 : 0 < s.size) (h1 : ¬ ((s[0].toNat : Nat) : Int) = 48) :
    Calls Try.prog 22 #[.string s] w fun e w' => RetF (told s (scan 10 0 s.data.toList)) e ∧ Below w.heap.size w w' := by
  unfold maxLen at hs
  have h0' : (0 : Int) < (s.size : Int) := by omega
  have hq : (((s[0].toNat : Nat) : Int) == 48) = false := by simpa using h1
  by_cases h2 : (2 : Int) < (s.size : Int)
  all_goals
    go_enter Try.func22, Try.ntmps22
    go_wp2_with fail
    go_loop [6, 35] (fun n i => ∃ (k : Nat) (q : Int), k ≤ s.size ∧ 0 ≤ q ∧ q ≤ 18446744073709551615 ∧ n = .int .u64 q ∧ i = .int .i64 k ∧ Hid (scan 10 0 s.data.toList = scan 10 q (s.data.toList.drop k))) (fun _ i => s.size - (intOf i).toNat)
    case atStart => exact ⟨0, 0, Nat.zero_le _, by omega, by omega, rfl, rfl, by rw [List.drop_zero]; rfl⟩
    case round =>
      clear hq h1
      obtain ⟨k, q, hk, hq0, hq1, rfl, rfl, HS⟩ := hrel
      by_cases hlt : k < s.size
      · have hd := drop_at s k hlt
        have hb := dval_bd (s[k].toNat : Int)
        have HC : Hid (scan 10 0 s.data.toList = scan 10 q (s[k] :: s.data.toList.drop (k + 1))) := by rw [← hd]; exact HS
        clear hd HS
        obtain ⟨hb0, hb1⟩ := hb
        have hu0 : (0 : Int) ≤ s[k].toNat := by omega
        have hu1 : (s[k].toNat : Int) ≤ 255 := by have := s[k].toNat_lt; omega
        by_cases ht : 10 ≤ dval (s[k].toNat : Int)
        · go_wp2_with (go_at_call 21; refine (digitValue_any _ _ hu0 hu1).mono ?_; rintro e w' ⟨rfl, hw'⟩; subst hw')
          refine bodyPost_ret (v := .tuple #[.int .i64 0, .agg #[.string bMal, .string s]]) (by simp [results, Try.results22, go_sem, bMal]) rfl ⟨?_, (Below.refl _ _).alloc (Nat.le_refl _) _⟩
          rw [HC.out, scan_cons_bad ht]; rfl
        · by_cases hp : (18446744073709551615 - dval (s[k].toNat : Int)) / 10 < q
          · go_wp2_with (go_at_call 21; refine (digitValue_any _ _ hu0 hu1).mono ?_; rintro e w' ⟨rfl, hw'⟩; subst hw')
            refine bodyPost_ret (v := .tuple #[.int .i64 0, .agg #[.string bPast, .string s]]) (by simp [results, Try.results22, go_sem, bPast]) rfl ⟨?_, (Below.refl _ _).alloc (Nat.le_refl _) _⟩
            rw [HC.out, scan_cons_past (by omega) hp]; rfl
          · have hm : q * 10 + dval (s[k].toNat : Int) ≤ 18446744073709551615 := by omega
            go_wp2_with (go_at_call 21; refine (digitValue_any _ _ hu0 hu1).mono ?_; rintro e w' ⟨rfl, hw'⟩; subst hw')
            go_round
            case rel => exact ⟨k + 1, _, by omega, by omega, hm, rfl, by go_num, HC.out.trans (scan_cons_go (by omega) (by omega))⟩
            case measure => simp [intOf]; omega
      · have HC : Hid (scan 10 0 s.data.toList = .inr q) := by
          have e : s.data.toList.drop k = [] := List.drop_eq_nil_of_le (by simp; omega)
          have := HS.out
          rw [e] at this
          exact this
        clear HS
        by_cases hbig : 9223372036854775807 < q
        · go_wp2
          refine bodyPost_ret (v := .tuple #[.int .i64 0, .agg #[.string bPast, .string s]]) (by simp [results, Try.results22, go_sem, bPast]) rfl ⟨?_, (Below.refl _ _).alloc (Nat.le_refl _) _⟩
          rw [HC.out, told_past s hbig]; rfl
        · go_wp2
          refine bodyPost_ret (v := .tuple #[.int .i64 q, .agg #[.string ⟨#[]⟩, .string ⟨#[]⟩]]) (by simp [results, Try.results22, go_sem]) rfl ⟨?_, (Below.refl _ _).alloc (Nat.le_refl _) _⟩
          rw [HC.out, told_ok s (by omega)]; rfl

set_option maxRecDepth 10000 in
set_option maxHeartbeats 1000000 in
theorem dv_eight (s t : ByteArray) (w : World) (hs : s.size ≤ maxLen) (h0 : 0 < s.size) (h1 : ((s[0].toNat : Nat) : Int) = 48) (h2 : s.size ≤ 2 ∨ ∃ h : 1 < s.size, isDg (s[1].toNat : Int) = true) (ht : s.extract 1 s.size = t) :
    Calls Try.prog 22 #[.string s] w fun e w' => RetF (told s (scan 8 0 t.data.toList)) e ∧ Below w.heap.size w w' := by
  unfold maxLen at hs
  have h0' : (0 : Int) < (s.size : Int) := by omega
  have h1' : (1 : Int) ≤ (s.size : Int) := by omega
  have hq : (((s[0].toNat : Nat) : Int) == 48) = true := by simpa using h1
  have hts : t.size ≤ 9223372036854775807 := by rw [← ht, ByteArray.size_extract]; omega
  by_cases h3 : (2 : Int) < (s.size : Int)
  · obtain ⟨h4, h5⟩ : ∃ h : 1 < s.size, isDg (s[1].toNat : Int) = true := by
      rcases h2 with h | h
      · omega
      · exact h
    clear h2
    have h4' : (1 : Int) < (s.size : Int) := by omega
    go_enter Try.func22, Try.ntmps22
    go_wp2_with (go_at_call 19; refine (isDigit_any _ _).mono ?_; rintro e w' ⟨rfl, hw'⟩; subst hw')
    go_quiet (fail)
    go_wp2_with fail
    go_loop [6, 35] (fun n i => ∃ (k : Nat) (q : Int), k ≤ t.size ∧ 0 ≤ q ∧ q ≤ 18446744073709551615 ∧ n = .int .u64 q ∧ i = .int .i64 k ∧ Hid (scan 8 0 t.data.toList = scan 8 q (t.data.toList.drop k))) (fun _ i => t.size - (intOf i).toNat)
    case atStart => exact ⟨0, 0, Nat.zero_le _, by omega, by omega, rfl, rfl, by rw [List.drop_zero]; rfl⟩
    case round =>
      clear hq h1 ht
      obtain ⟨k, q, hk, hq0, hq1, rfl, rfl, HS⟩ := hrel
      by_cases hlt : k < t.size
      · have hd := drop_at t k hlt
        have hb := dval_bd (t[k].toNat : Int)
        have HC : Hid (scan 8 0 t.data.toList = scan 8 q (t[k] :: t.data.toList.drop (k + 1))) := by rw [← hd]; exact HS
        clear hd HS
        obtain ⟨hb0, hb1⟩ := hb
        have hu0 : (0 : Int) ≤ t[k].toNat := by omega
        have hu1 : (t[k].toNat : Int) ≤ 255 := by have := t[k].toNat_lt; omega
        by_cases ht : 8 ≤ dval (t[k].toNat : Int)
        · go_wp2_with (go_at_call 21; refine (digitValue_any _ _ hu0 hu1).mono ?_; rintro e w' ⟨rfl, hw'⟩; subst hw')
          refine bodyPost_ret (v := .tuple #[.int .i64 0, .agg #[.string bMal, .string s]]) (by simp [results, Try.results22, go_sem, bMal]) rfl ⟨?_, bel2 _ _ _ _ _⟩
          rw [HC.out, scan_cons_bad ht]; rfl
        · by_cases hp : (18446744073709551615 - dval (t[k].toNat : Int)) / 8 < q
          · go_wp2_with (go_at_call 21; refine (digitValue_any _ _ hu0 hu1).mono ?_; rintro e w' ⟨rfl, hw'⟩; subst hw')
            refine bodyPost_ret (v := .tuple #[.int .i64 0, .agg #[.string bPast, .string s]]) (by simp [results, Try.results22, go_sem, bPast]) rfl ⟨?_, bel2 _ _ _ _ _⟩
            rw [HC.out, scan_cons_past (by omega) hp]; rfl
          · have hm : q * 8 + dval (t[k].toNat : Int) ≤ 18446744073709551615 := by omega
            go_wp2_with (go_at_call 21; refine (digitValue_any _ _ hu0 hu1).mono ?_; rintro e w' ⟨rfl, hw'⟩; subst hw')
            go_round
            case rel => exact ⟨k + 1, _, by omega, by omega, hm, rfl, by go_num, HC.out.trans (scan_cons_go (by omega) (by omega))⟩
            case measure => simp [intOf]; omega
      · have HC : Hid (scan 8 0 t.data.toList = .inr q) := by
          have e : t.data.toList.drop k = [] := List.drop_eq_nil_of_le (by simp; omega)
          have := HS.out
          rw [e] at this
          exact this
        clear HS
        by_cases hbig : 9223372036854775807 < q
        · go_wp2
          refine bodyPost_ret (v := .tuple #[.int .i64 0, .agg #[.string bPast, .string s]]) (by simp [results, Try.results22, go_sem, bPast]) rfl ⟨?_, bel2 _ _ _ _ _⟩
          rw [HC.out, told_past s hbig]; rfl
        · go_wp2
          refine bodyPost_ret (v := .tuple #[.int .i64 q, .agg #[.string ⟨#[]⟩, .string ⟨#[]⟩]]) (by simp [results, Try.results22, go_sem]) rfl ⟨?_, bel2 _ _ _ _ _⟩
          rw [HC.out, told_ok s (by omega)]; rfl
  · clear h2
    go_enter Try.func22, Try.ntmps22
    go_wp2_with fail
    go_quiet (fail)
    go_wp2_with fail
    go_loop [6, 35] (fun n i => ∃ (k : Nat) (q : Int), k ≤ t.size ∧ 0 ≤ q ∧ q ≤ 18446744073709551615 ∧ n = .int .u64 q ∧ i = .int .i64 k ∧ Hid (scan 8 0 t.data.toList = scan 8 q (t.data.toList.drop k))) (fun _ i => t.size - (intOf i).toNat)
    case atStart => exact ⟨0, 0, Nat.zero_le _, by omega, by omega, rfl, rfl, by rw [List.drop_zero]; rfl⟩
    case round =>
      clear hq h1 ht
      obtain ⟨k, q, hk, hq0, hq1, rfl, rfl, HS⟩ := hrel
      by_cases hlt : k < t.size
      · have hd := drop_at t k hlt
        have hb := dval_bd (t[k].toNat : Int)
        have HC : Hid (scan 8 0 t.data.toList = scan 8 q (t[k] :: t.data.toList.drop (k + 1))) := by rw [← hd]; exact HS
        clear hd HS
        obtain ⟨hb0, hb1⟩ := hb
        have hu0 : (0 : Int) ≤ t[k].toNat := by omega
        have hu1 : (t[k].toNat : Int) ≤ 255 := by have := t[k].toNat_lt; omega
        by_cases ht : 8 ≤ dval (t[k].toNat : Int)
        · go_wp2_with (go_at_call 21; refine (digitValue_any _ _ hu0 hu1).mono ?_; rintro e w' ⟨rfl, hw'⟩; subst hw')
          refine bodyPost_ret (v := .tuple #[.int .i64 0, .agg #[.string bMal, .string s]]) (by simp [results, Try.results22, go_sem, bMal]) rfl ⟨?_, bel2 _ _ _ _ _⟩
          rw [HC.out, scan_cons_bad ht]; rfl
        · by_cases hp : (18446744073709551615 - dval (t[k].toNat : Int)) / 8 < q
          · go_wp2_with (go_at_call 21; refine (digitValue_any _ _ hu0 hu1).mono ?_; rintro e w' ⟨rfl, hw'⟩; subst hw')
            refine bodyPost_ret (v := .tuple #[.int .i64 0, .agg #[.string bPast, .string s]]) (by simp [results, Try.results22, go_sem, bPast]) rfl ⟨?_, bel2 _ _ _ _ _⟩
            rw [HC.out, scan_cons_past (by omega) hp]; rfl
          · have hm : q * 8 + dval (t[k].toNat : Int) ≤ 18446744073709551615 := by omega
            go_wp2_with (go_at_call 21; refine (digitValue_any _ _ hu0 hu1).mono ?_; rintro e w' ⟨rfl, hw'⟩; subst hw')
            go_round
            case rel => exact ⟨k + 1, _, by omega, by omega, hm, rfl, by go_num, HC.out.trans (scan_cons_go (by omega) (by omega))⟩
            case measure => simp [intOf]; omega
      · have HC : Hid (scan 8 0 t.data.toList = .inr q) := by
          have e : t.data.toList.drop k = [] := List.drop_eq_nil_of_le (by simp; omega)
          have := HS.out
          rw [e] at this
          exact this
        clear HS
        by_cases hbig : 9223372036854775807 < q
        · go_wp2
          refine bodyPost_ret (v := .tuple #[.int .i64 0, .agg #[.string bPast, .string s]]) (by simp [results, Try.results22, go_sem, bPast]) rfl ⟨?_, bel2 _ _ _ _ _⟩
          rw [HC.out, told_past s hbig]; rfl
        · go_wp2
          refine bodyPost_ret (v := .tuple #[.int .i64 q, .agg #[.string ⟨#[]⟩, .string ⟨#[]⟩]]) (by simp [results, Try.results22, go_sem]) rfl ⟨?_, bel2 _ _ _ _ _⟩
          rw [HC.out, told_ok s (by omega)]; rfl

set_option maxRecDepth 10000 in
set_option maxHeartbeats 1000000 in
theorem dv_sixteen (s t : ByteArray) (w : World) (hs : s.size ≤ maxLen) (h0 : 2 < s.size) (h1 : ((s[0].toNat : Nat) : Int) = 48) (h2 : isDg (s[1].toNat : Int) = false) (ht : s.extract 2 s.size = t) :
    Calls Try.prog 22 #[.string s] w fun e w' => RetF (told s (scan 16 0 t.data.toList)) e ∧ Below w.heap.size w w' := by
  unfold maxLen at hs
  have h0' : (0 : Int) < (s.size : Int) := by omega
  have h1' : (1 : Int) < (s.size : Int) := by omega
  have h3 : (2 : Int) < (s.size : Int) := by omega
  have h3' : (2 : Int) ≤ (s.size : Int) := by omega
  have hq : (((s[0].toNat : Nat) : Int) == 48) = true := by simpa using h1
  have hts : t.size ≤ 9223372036854775807 := by rw [← ht, ByteArray.size_extract]; omega
  all_goals
    go_enter Try.func22, Try.ntmps22
    go_wp2_with (go_at_call 19; refine (isDigit_any _ _).mono ?_; rintro e w' ⟨rfl, hw'⟩; subst hw')
    go_quiet (fail)
    go_wp2_with fail
    go_loop [6, 35] (fun n i => ∃ (k : Nat) (q : Int), k ≤ t.size ∧ 0 ≤ q ∧ q ≤ 18446744073709551615 ∧ n = .int .u64 q ∧ i = .int .i64 k ∧ Hid (scan 16 0 t.data.toList = scan 16 q (t.data.toList.drop k))) (fun _ i => t.size - (intOf i).toNat)
    case atStart => exact ⟨0, 0, Nat.zero_le _, by omega, by omega, rfl, rfl, by rw [List.drop_zero]; rfl⟩
    case round =>
      clear hq h1 ht
      obtain ⟨k, q, hk, hq0, hq1, rfl, rfl, HS⟩ := hrel
      by_cases hlt : k < t.size
      · have hd := drop_at t k hlt
        have hb := dval_bd (t[k].toNat : Int)
        have HC : Hid (scan 16 0 t.data.toList = scan 16 q (t[k] :: t.data.toList.drop (k + 1))) := by rw [← hd]; exact HS
        clear hd HS
        obtain ⟨hb0, hb1⟩ := hb
        have hu0 : (0 : Int) ≤ t[k].toNat := by omega
        have hu1 : (t[k].toNat : Int) ≤ 255 := by have := t[k].toNat_lt; omega
        by_cases ht : 16 ≤ dval (t[k].toNat : Int)
        · go_wp2_with (go_at_call 21; refine (digitValue_any _ _ hu0 hu1).mono ?_; rintro e w' ⟨rfl, hw'⟩; subst hw')
          refine bodyPost_ret (v := .tuple #[.int .i64 0, .agg #[.string bMal, .string s]]) (by simp [results, Try.results22, go_sem, bMal]) rfl ⟨?_, bel2 _ _ _ _ _⟩
          rw [HC.out, scan_cons_bad ht]; rfl
        · by_cases hp : (18446744073709551615 - dval (t[k].toNat : Int)) / 16 < q
          · go_wp2_with (go_at_call 21; refine (digitValue_any _ _ hu0 hu1).mono ?_; rintro e w' ⟨rfl, hw'⟩; subst hw')
            refine bodyPost_ret (v := .tuple #[.int .i64 0, .agg #[.string bPast, .string s]]) (by simp [results, Try.results22, go_sem, bPast]) rfl ⟨?_, bel2 _ _ _ _ _⟩
            rw [HC.out, scan_cons_past (by omega) hp]; rfl
          · have hm : q * 16 + dval (t[k].toNat : Int) ≤ 18446744073709551615 := by omega
            go_wp2_with (go_at_call 21; refine (digitValue_any _ _ hu0 hu1).mono ?_; rintro e w' ⟨rfl, hw'⟩; subst hw')
            go_round
            case rel => exact ⟨k + 1, _, by omega, by omega, hm, rfl, by go_num, HC.out.trans (scan_cons_go (by omega) (by omega))⟩
            case measure => simp [intOf]; omega
      · have HC : Hid (scan 16 0 t.data.toList = .inr q) := by
          have e : t.data.toList.drop k = [] := List.drop_eq_nil_of_le (by simp; omega)
          have := HS.out
          rw [e] at this
          exact this
        clear HS
        by_cases hbig : 9223372036854775807 < q
        · go_wp2
          refine bodyPost_ret (v := .tuple #[.int .i64 0, .agg #[.string bPast, .string s]]) (by simp [results, Try.results22, go_sem, bPast]) rfl ⟨?_, bel2 _ _ _ _ _⟩
          rw [HC.out, told_past s hbig]; rfl
        · go_wp2
          refine bodyPost_ret (v := .tuple #[.int .i64 q, .agg #[.string ⟨#[]⟩, .string ⟨#[]⟩]]) (by simp [results, Try.results22, go_sem]) rfl ⟨?_, bel2 _ _ _ _ _⟩
          rw [HC.out, told_ok s (by omega)]; rfl

end Go.Proofs.Qxb6615880a
