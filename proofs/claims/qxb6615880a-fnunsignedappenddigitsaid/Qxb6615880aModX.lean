/- zzModelUnsigned (9): the hexadecimal branch. -/
import Derived.Test.Qxb6615880aModH
import Derived.Test.Qxb6615880aOr
namespace Go.Proofs.Qxb6615880a
open Go.RowKit

theorem pHex_iff (c : UInt8) : pHex c = true ↔ dval c.toNat < 16 := by
  unfold pHex
  rcases kinds (c.toNat : Int) with ⟨e1, e2, _, e, _⟩ | ⟨e1, e2, _, e⟩ | ⟨e1, e2, e⟩ <;> simp [e1, e2] <;> omega


theorem hexVal_b (c : UInt8) (w : World) : Calls Try.prog 12 #[.int .u8 (c.toNat : Int)] w fun e w' => e = .returned (.int .i64 (dval c.toNat)) ∧ w = w' :=
  (hexVal_any (c.toNat : Int) w (by omega) (by have := c.toNat_lt; omega)).mono fun _ _ h => ⟨h.1, h.2.symm⟩

theorem strip_b (s : ByteArray) (w : World) (hs : s.size ≤ maxLen) : Calls Try.prog 17 #[.string s] w fun e w' => RetStrip s e ∧ w = w' :=
  (strip_any s w hs).mono fun _ _ h => ⟨h.1, h.2.symm⟩

theorem finish_b (n : Int) (tail : ByteArray) (w : World) : Calls Try.prog 18 #[.int .i64 n, .string tail] w fun e w' => RetM (unsOf n tail ⟨#[]⟩ ⟨#[]⟩) e ∧ w = w' :=
  (finish_any n tail w).mono fun _ _ h => ⟨h.1, h.2.symm⟩

theorem strip_size {s t : ByteArray} (h : t.data.toList = s.data.toList.dropWhile isZ) : t.size ≤ s.size := by
  have e1 : t.data.toList.length = t.size := by simp
  have e2 : s.data.toList.length = s.size := by simp
  have := (List.dropWhile_suffix isZ (l := s.data.toList)).length_le
  rw [← h] at this
  omega

theorem uns_hex_past {s : ByteArray} {k : Nat} (h2 : 1 < s.size) (h3 : (s[0].toNat : Int) = 48) (h4 : (s[1].toNat : Int) = 120 ∨ (s[1].toNat : Int) = 88) (hk : runEnd pHex s.data.toList 2 = k) (hk2 : 2 < k) (hks : k ≤ s.size)
    (hv : 9223372036854775807 < rV 16 (s.extract 2 k).data.toList) : uns s = (0, bPast, s.extract 0 k) := by
  have hl := lead_hexv h2 h3 h4 hk hk2 hks
  rw [if_neg (by omega)] at hl
  rw [uns_of_lead (by omega) ((isDg_iff _).2 (by omega)) ((numEnd_hex h2 h3 h4).trans hk) hl, unsOf_bad bPast_ne]
theorem uns_hex_fits {s : ByteArray} {k : Nat} (h2 : 1 < s.size) (h3 : (s[0].toNat : Int) = 48) (h4 : (s[1].toNat : Int) = 120 ∨ (s[1].toNat : Int) = 88) (hk : runEnd pHex s.data.toList 2 = k) (hk2 : 2 < k) (hks : k ≤ s.size)
    (hv : rV 16 (s.extract 2 k).data.toList ≤ 9223372036854775807) : uns s = unsOf (rV 16 (s.extract 2 k).data.toList : Int) (s.extract k s.size) ⟨#[]⟩ ⟨#[]⟩ := by
  have hl := lead_hexv h2 h3 h4 hk hk2 hks
  rw [if_pos hv] at hl
  rw [uns_of_lead (by omega) ((isDg_iff _).2 (by omega)) ((numEnd_hex h2 h3 h4).trans hk) hl]

theorem size_list (t : ByteArray) : t.data.toList.length = t.size := by simp
theorem head_at (t : ByteArray) (h : 0 < t.size) {c : UInt8} {r : List UInt8} (e : t.data.toList = c :: r) : t[0] = c := by
  have := list_cons t h
  rw [e] at this
  exact (List.cons.inj this).1.symm

/-- A string that is not empty, as its first byte and the rest. -/
theorem uncons (t : ByteArray) (h : 0 < t.size) : ∃ r, t.data.toList = t[0] :: r ∧ r.length + 1 = t.size := by
  refine ⟨_, list_cons t h, ?_⟩
  have := size_list t
  rw [List.length_drop]
  omega

theorem hex_big {t : ByteArray} (h : 0 < t.size) (h16 : t.size = 16) (h8 : 8 ≤ dval (t[0].toNat : Int)) : 9223372036854775807 < rV 16 t.data.toList := by
  obtain ⟨r, e, hr⟩ := uncons t h
  rw [e]
  exact hex_past_16 (by omega) (by have := dn_int t[0]; omega)

theorem hex_fit {t : ByteArray} (hs : Sig 16 t.data.toList) (h16 : t.size ≤ 16) (hn : ¬ ∃ h : 0 < t.size, t.size = 16 ∧ 8 ≤ dval (t[0].toNat : Int)) : rV 16 t.data.toList ≤ 9223372036854775807 := by
  by_cases c5 : t.size = 16
  · have c4 : 0 < t.size := by omega
    obtain ⟨r, e, hr⟩ := uncons t c4
    have hh := hs.1
    rw [e] at hh ⊢
    refine hex_fits_16 (fun c hc => hh c (by simp [hc])) (by omega) ?_
    have := dn_int t[0]
    have h8 : ¬ 8 ≤ dval (t[0].toNat : Int) := fun h => hn ⟨c4, c5, h⟩
    omega
  · exact hex_fits_short hs.1 (by rw [size_list]; omega)

set_option maxRecDepth 10000 in
set_option maxHeartbeats 4000000 in
theorem mod_hex (s : ByteArray) (w : World) (hs : s.size ≤ maxLen) (h2 : 1 < s.size) (h3 : (s[0].toNat : Int) = 48) (h4 : (s[1].toNat : Int) = 120 ∨ (s[1].toNat : Int) = 88) :
    Calls Try.prog 9 #[.string s] w fun e w' => RetM (uns s) e ∧ ∃ n, w' = w.drewN n := by
  have he : s.toList.isEmpty = false := by rw [ByteArray.toList_eq, list_cons s (by omega)]; rfl
  have HM : Hid (s.size ≤ maxLen) := hs
  have H : Hid ((s[0].toNat : Int) = 48 ∧ ((s[1].toNat : Int) = 120 ∨ (s[1].toNat : Int) = 88)) := ⟨h3, h4⟩
  unfold maxLen at hs
  have h0' : (0 : Int) < (s.size : Int) := by omega
  have h1' : (1 : Int) < (s.size : Int) := by omega
  have h2' : (2 : Int) ≤ (s.size : Int) := by omega
  have a1 : ¬ (s[0].toNat : Int) < 48 := by omega
  have a2 : ¬ 57 < (s[0].toNat : Int) := by omega
  have a3 : decide ((s[0].toNat : Int) < 48) = false := by simpa using a1
  have q1 : ((s[0].toNat : Int) == 48) = true := by simpa using h3
  clear h3
  rcases h4 with h4 | h4
  have q2 : ((s[1].toNat : Int) == 120) = true := by simpa using h4
  rotate_left
  have q2 : ((s[1].toNat : Int) == 120) = false := by simp; omega
  have q3 : ((s[1].toNat : Int) == 88) = true := by simpa using h4
  rotate_left
  all_goals
    clear h4
    go_enter Try.func9, Try.ntmps9
    go_wp2_with fail
    go_loop [5] (fun i => ∃ k : Nat, 2 ≤ k ∧ k ≤ s.size ∧ i = .int .i64 k ∧ Hid (runEnd pHex s.data.toList 2 = runEnd pHex s.data.toList k)) (fun i => s.size - (intOf i).toNat)
    case atStart => exact ⟨2, Nat.le_refl _, by omega, rfl, rfl⟩
    case round =>
      clear a1 a2 a3 q1
      obtain ⟨k, hk0, hk, rfl, HE⟩ := hrel
      by_cases hp : ∃ h : k < s.size, dval (s[k].toNat : Int) < 16
      · obtain ⟨hlt, hp⟩ := hp
        have hlt' : (k : Int) < s.size := by omega
        have HN : Hid (runEnd pHex s.data.toList k = runEnd pHex s.data.toList (k + 1)) := runEnd_step hlt ((pHex_iff _).2 hp)
        go_wp2_with (go_at_call 12; refine (hexVal_b _ _).mono ?_; rintro e w' ⟨rfl, rfl⟩)
        go_round
        case rel => exact ⟨k + 1, by omega, by omega, by go_num, HE.out.trans HN.out⟩
        case measure => simp [intOf]; omega
      · have HN : Hid (runEnd pHex s.data.toList 2 = k) := by
          refine HE.out.trans ?_
          by_cases hlt : k < s.size
          · exact runEnd_stop hlt (by cases h : pHex s[k]; rfl; exact absurd ⟨hlt, (pHex_iff _).1 h⟩ hp)
          · exact runEnd_end (by omega)
        clear HE
        have HX : Hid (∀ wx, Calls Try.prog 17 #[.string (s.extract 2 k)] wx fun e w' => RetStrip (s.extract 2 k) e ∧ wx = w') := fun wx => strip_b _ wx (by have := HM.out; rw [ByteArray.size_extract]; omega)
        by_cases hlt : k < s.size
        have hp' : ¬ dval (s[k].toNat : Int) < 16 := fun h => hp ⟨hlt, h⟩
        have hlt' : (k : Int) < s.size := by omega
        all_goals
          clear hp
          by_cases hk2 : k = 2
          · have HU : Hid (uns s = (0, bMal, s.extract 0 2)) := uns_hex_none h2 H.out.1 H.out.2 (HN.out.trans hk2)
            subst hk2
            go_wp2_with (go_at_call 12; refine (hexVal_b _ _).mono ?_; rintro e w' ⟨rfl, rfl⟩)
            go_quiet (fail)
            go_wp2
            go_ret3
            exact ⟨by rw [HU.out]; rfl, _, rfl⟩
          · have q5 : ((k : Int) == 2) = false := by simp; omega
            go_wp2_with (go_at_call 12; refine (hexVal_b _ _).mono ?_; rintro e w' ⟨rfl, rfl⟩)
            refine (HX.out _).mono ?_
            rintro e w' ⟨⟨t, rfl, ht⟩, rfl⟩
            have hall := run_all HN.out
            have HS : Hid (Sig 16 t.data.toList) := by show Sig _ _; rw [ht]; exact sig_strip fun c hc => pHex_dn (hall c hc)
            have HR : Hid (rV 16 t.data.toList = rV 16 (s.extract 2 k).data.toList) := by show _ = _; rw [ht, rV_strip]
            have hts : t.size ≤ 9223372036854775807 := by have := strip_size ht; rw [ByteArray.size_extract] at this; omega
            clear ht hall HX
            by_cases c1 : (16 : Int) < t.size
            · have HU : Hid (uns s = (0, bPast, s.extract 0 k)) := uns_hex_past h2 H.out.1 H.out.2 HN.out (by omega) hk (by rw [← HR.out]; exact hex_past_long HS.out (by rw [size_list]; omega))
              go_wp2_with fail
              go_quiet (fail)
              go_wp2
              go_ret3
              exact ⟨by rw [HU.out]; rfl, _, rfl⟩
            · by_cases c3 : ∃ h : 0 < t.size, t.size = 16 ∧ 8 ≤ dval (t[0].toNat : Int)
              · obtain ⟨c4, c5, c6⟩ := c3
                have HU : Hid (uns s = (0, bPast, s.extract 0 k)) := uns_hex_past h2 H.out.1 H.out.2 HN.out (by omega) hk (by rw [← HR.out]; exact hex_big c4 c5 c6)
                have q6 : ((t.size : Int) == 16) = true := by simp; omega
                have c4' : (0 : Int) < t.size := by omega
                clear c5
                go_wp2_with (go_at_call 12; refine (hexVal_b _ _).mono ?_; rintro e w' ⟨rfl, rfl⟩)
                go_quiet (fail)
                go_wp2
                go_ret3
                exact ⟨by rw [HU.out]; rfl, _, rfl⟩
              · have hfit : rV 16 t.data.toList ≤ 9223372036854775807 := hex_fit HS.out (by omega) c3
                have HU : Hid (uns s = unsOf (rV 16 t.data.toList : Int) (s.extract k s.size) ⟨#[]⟩ ⟨#[]⟩) := by
                  show _ = _
                  rw [HR.out]
                  exact uns_hex_fits h2 H.out.1 H.out.2 HN.out (by omega) hk (by rw [← HR.out]; exact hfit)
                have HF : Hid (rV 16 t.data.toList ≤ 9223372036854775807) := hfit
                clear hfit
                by_cases c5 : t.size = 16
                have q6 : ((t.size : Int) == 16) = true := by simp; omega
                have c4 : 0 < t.size := by omega
                have c4' : (0 : Int) < t.size := by omega
                have c6 : ¬ 8 ≤ dval (t[0].toNat : Int) := fun h => c3 ⟨c4, c5, h⟩
                rotate_left
                have q6 : ((t.size : Int) == 16) = false := by simp; omega
                rotate_left
                all_goals
                  have c7 : t.size ≤ 16 := by omega
                  clear c5 c3
                  go_wp2_with (go_at_call 12; refine (hexVal_b _ _).mono ?_; rintro e w' ⟨rfl, rfl⟩)
                  go_loop [7, 8] (fun v i => ∃ m : Nat, m ≤ t.size ∧ i = .int .i64 m ∧ v = .int .i64 (rV 16 (t.data.toList.drop (t.size - m)) : Int)) (fun _ i => t.size - (intOf i).toNat)
                  case atStart => exact ⟨0, Nat.zero_le _, rfl, by rw [List.drop_eq_nil_of_le (by simp)]; rfl⟩
                  case round =>
                    obtain ⟨m, hm, rfl, rfl⟩ := hrel
                    by_cases hlm : m < t.size
                    · have hix : (t.size : Int) - 1 - m < t.size := by omega
                      have hix0 : (0 : Int) ≤ (t.size : Int) - 1 - m := by omega
                      go_wp2_with (go_at_call 12; refine (hexVal_b _ _).mono ?_; rintro e w' ⟨rfl, rfl⟩)
                      go_round
                      case rel =>
                        exact ⟨m + 1, by omega, by go_num, congrArg (Value.int .i64) (hex_round HS.out.1 HF.out hlm)⟩
                      case measure => simp [intOf]; omega
                    · obtain rfl : m = t.size := by omega
                      have e0 : t.data.toList.drop (t.size - t.size) = t.data.toList := by rw [Nat.sub_self, List.drop_zero]
                      rw [e0]
                      clear e0
                      go_wp2_with fail
                      refine (finish_b _ _ _).mono ?_
                      rintro e w' ⟨he, rfl⟩
                      unfold RetM at he
                      subst he
                      go_wp2
                      go_ret3
                      exact ⟨by rw [HU.out]; rfl, 0, rfl⟩
end Go.Proofs.Qxb6615880a
