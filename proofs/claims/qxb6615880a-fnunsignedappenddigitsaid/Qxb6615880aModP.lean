/- zzModelUnsigned (9): the octal branch: the walk. -/
import Derived.Test.Qxb6615880aModO
namespace Go.Proofs.Qxb6615880a
open Go.RowKit

theorem finish_o (n : Int) (tail : ByteArray) (w : World) : Calls Try.prog 18 #[.int .i64 n, .string tail] w fun e w' => RetM (unsOf n tail ⟨#[]⟩ ⟨#[]⟩) e ∧ w = w' :=
  (finish_any n tail w).mono fun _ _ h => ⟨h.1, h.2.symm⟩
theorem strip_o (s : ByteArray) (w : World) (hs : s.size ≤ maxLen) : Calls Try.prog 17 #[.string s] w fun e w' => RetStrip s e ∧ w = w' :=
  (strip_any s w hs).mono fun _ _ h => ⟨h.1, h.2.symm⟩

set_option maxRecDepth 10000 in
set_option maxHeartbeats 8000000 in
theorem mod_oct (s : ByteArray) (w : World) (hs : s.size ≤ maxLen) (hsz : 2 ≤ s.size) (h2 : (s[0].toNat : Int) = 48) (h3 : ¬ (s[1].toNat : Int) = 120) (h4 : ¬ (s[1].toNat : Int) = 88) :
    Calls Try.prog 9 #[.string s] w fun e w' => RetM (uns s) e ∧ ∃ n, w' = w.drewN n := by
  have h0 : 0 < s.size := by omega
  have he : s.toList.isEmpty = false := by rw [ByteArray.toList_eq, list_cons s (by omega)]; rfl
  have HM : Hid (s.size ≤ maxLen) := hs
  have H : Hid (NotHex s ∧ (s[0].toNat : Int) = 48) := ⟨Or.inr ⟨by omega, Or.inr ⟨h2, h3, h4⟩⟩, h2⟩
  unfold maxLen at hs
  have h0' : (0 : Int) < (s.size : Int) := by omega
  have h1' : (1 : Int) < (s.size : Int) := by omega
  have h2' : (2 : Int) ≤ (s.size : Int) := by omega
  have a1 : ¬ (s[0].toNat : Int) < 48 := by omega
  have a2 : ¬ 57 < (s[0].toNat : Int) := by omega
  have a3 : decide ((s[0].toNat : Int) < 48) = false := by simpa using a1
  have q1 : ((s[0].toNat : Int) == 48) = true := by simpa using h2
  have q2 : ((s[1].toNat : Int) == 120) = false := by simpa using h3
  have q3 : ((s[1].toNat : Int) == 88) = false := by simpa using h4
  clear h2 h3 h4
  go_enter Try.func9, Try.ntmps9
  go_wp2_with fail
  go_loop [9] (fun i => ∃ k : Nat, 1 ≤ k ∧ k ≤ s.size ∧ i = .int .i64 k ∧ Hid (runEnd pDec s.data.toList 1 = runEnd pDec s.data.toList k)) (fun i => s.size - (intOf i).toNat)
  case atStart => exact ⟨1, Nat.le_refl _, by omega, rfl, rfl⟩
  case round =>
    obtain ⟨k, hk0, hk, rfl, HE⟩ := hrel
    by_cases hp : ∃ h : k < s.size, isDg (s[k].toNat : Int) = true
    · obtain ⟨hlt, hp⟩ := hp
      have hlt' : (k : Int) < s.size := by omega
      have HN : Hid (runEnd pDec s.data.toList k = runEnd pDec s.data.toList (k + 1)) := runEnd_step hlt hp
      obtain ⟨b1, b2⟩ := (isDg_iff _).1 hp
      clear hp
      go_wp2_with fail
      go_round
      case rel => exact ⟨k + 1, by omega, by omega, by go_num, HE.out.trans HN.out⟩
      case measure => simp [intOf]; omega
    · have HN : Hid (runEnd pDec s.data.toList 1 = k) := by
        refine HE.out.trans ?_
        by_cases hlt : k < s.size
        · exact runEnd_stop hlt (by cases h : pDec s[k]; rfl; exact absurd ⟨hlt, h⟩ hp)
        · exact runEnd_end (by omega)
      clear HE
      obtain ⟨run, hrun⟩ : ∃ r, s.extract 0 k = r := ⟨_, rfl⟩
      obtain ⟨D, hD⟩ : ∃ r, s.extract 1 k = r := ⟨_, rfl⟩
      have hds : D.size = k - 1 := by rw [← hD, ByteArray.size_extract]; omega
      have hd1 : D.size ≤ 9223372036854775807 := by omega
      have hkk : (1 : Int) ≤ k := by omega
      have HD : Hid (s.extract 1 k = D) := hD
      have HMD : Hid (D.size ≤ maxLen) := by have := HM.out; show D.size ≤ maxLen; omega
      clear hds
      by_cases hlt : k < s.size
      have hlt' : (k : Int) < s.size := by omega
      by_cases d1 : 48 ≤ (s[k].toNat : Int)
      have d2 : ¬ (s[k].toNat : Int) ≤ 57 := fun h => hp ⟨hlt, (isDg_iff _).2 ⟨d1, h⟩⟩
      rotate_left
      have d3 : decide (48 ≤ (s[k].toNat : Int)) = false := by simpa using d1
      rotate_left
      rotate_left

      all_goals
        clear hp
        go_wp2_with fail
        go_loop [12] (fun i => ∃ j : Nat, j ≤ D.size ∧ i = .int .i64 j ∧ Hid (runEnd pOct D.data.toList 0 = runEnd pOct D.data.toList j)) (fun i => D.size - (intOf i).toNat)
        case atStart => exact ⟨0, Nat.zero_le _, rfl, rfl⟩
        case round =>
          obtain ⟨j, hj, rfl, HE⟩ := hrel
          by_cases hp : ∃ h : j < D.size, (D[j].toNat : Int) ≤ 55
          · obtain ⟨hlj, hp⟩ := hp
            have hlj' : (j : Int) < D.size := by omega
            have HJ : Hid (runEnd pOct D.data.toList j = runEnd pOct D.data.toList (j + 1)) := runEnd_step hlj (by simpa [pOct] using hp)
            go_wp2_with fail
            go_round
            case rel => exact ⟨j + 1, by omega, by go_num, HE.out.trans HJ.out⟩
            case measure => simp [intOf]; omega
          · have HJ : Hid (runEnd pOct D.data.toList 0 = j) := by
              refine HE.out.trans ?_
              by_cases hlj : j < D.size
              · exact runEnd_stop hlj (by cases h : pOct D[j]; rfl; exact absurd ⟨hlj, by simpa [pOct] using h⟩ hp)
              · exact runEnd_end (by omega)
            clear HE
            obtain ⟨P, hP⟩ : ∃ r, D.extract 0 j = r := ⟨_, rfl⟩
            have HX : Hid (∀ wx, Calls Try.prog 17 #[.string P] wx fun e w' => RetStrip P e ∧ wx = w') := fun wx => strip_o _ wx (by have := HMD.out; rw [← hP, ByteArray.size_extract]; omega)
            have HO : Hid (∀ t : ByteArray, t.data.toList = P.data.toList.dropWhile isZ → Oct s D t k j) := fun t ht => ⟨h0, H.out.1, H.out.2, HN.out, hk0, HD.out, HJ.out, hj, by rw [ht, ← hP, extract_list0]⟩
            by_cases hlj : j < D.size
            · have hlj' : (j : Int) < D.size := by omega
              have hp' : ¬ (D[j].toNat : Int) ≤ 55 := fun h => hp ⟨hlj, h⟩
              clear hp HD HN HJ HM HMD H
              go_wp2_with fail
              refine (HX.out _).mono ?_
              rintro e w' ⟨⟨t, rfl, ht⟩, rfl⟩
              have O : Hid (Oct s D t k j) := HO.out t ht
              have hts : t.size ≤ 9223372036854775807 := by have := O.out.size_le; omega
              clear HX HO ht
              by_cases c1 : (22 : Int) < t.size
              · have HU : Hid (uns s = (0, bPast, run)) := by rw [← hrun]; exact O.out.past (O.out.big23 (by omega))
                go_wp2
                go_ret3
                exact ⟨by rw [HU.out]; rfl, 0, rfl⟩
              · by_cases c3 : ∃ h : 0 < t.size, t.size = 22 ∧ 50 ≤ (t[0].toNat : Int)
                · obtain ⟨c4, c5, c6⟩ := c3
                  have HU : Hid (uns s = (0, bPast, run)) := by rw [← hrun]; exact O.out.past (O.out.big22 c4 c5 c6)
                  have q6 : ((t.size : Int) == 22) = true := by simp; omega
                  have c4' : (0 : Int) < t.size := by omega
                  clear c5
                  go_wp2
                  go_ret3
                  exact ⟨by rw [HU.out]; rfl, 0, rfl⟩
                · have HV : Hid (rV 8 t.data.toList ≤ 18446744073709551615) := O.out.small22 (by omega) c3
                  by_cases c5 : t.size = 22
                  · have q6 : ((t.size : Int) == 22) = true := by simp; omega
                    have c4 : 0 < t.size := by omega
                    have c4' : (0 : Int) < t.size := by omega
                    have c6 : ¬ 50 ≤ (t[0].toNat : Int) := fun h => c3 ⟨c4, c5, h⟩
                    have c8 : 21 < t.size := by omega
                    have HU : Hid (uns s = (0, bMal, run)) := by rw [← hrun]; exact O.out.mal HV.out hlj
                    clear c5 c3
                    go_wp2
                    go_ret3
                    exact ⟨by rw [HU.out]; rfl, 0, rfl⟩
                  · have q6 : ((t.size : Int) == 22) = false := by simp; omega
                    have c8 : t.size ≤ 21 := by omega
                    have HU : Hid (uns s = (0, bMal, run)) := by rw [← hrun]; exact O.out.mal HV.out hlj
                    clear c5 c3
                    go_wp2
                    go_ret3
                    exact ⟨by rw [HU.out]; rfl, 0, rfl⟩
            · have hlj0 : ¬ (j : Int) < D.size := by omega
              clear hp HD HN HJ HM HMD H
              go_wp2_with fail
              refine (HX.out _).mono ?_
              rintro e w' ⟨⟨t, rfl, ht⟩, rfl⟩
              have O : Hid (Oct s D t k j) := HO.out t ht
              have hts : t.size ≤ 9223372036854775807 := by have := O.out.size_le; omega
              clear HX HO ht
              by_cases c1 : (22 : Int) < t.size
              · have HU : Hid (uns s = (0, bPast, run)) := by rw [← hrun]; exact O.out.past (O.out.big23 (by omega))
                go_wp2
                go_ret3
                exact ⟨by rw [HU.out]; rfl, 0, rfl⟩
              · by_cases c3 : ∃ h : 0 < t.size, t.size = 22 ∧ 50 ≤ (t[0].toNat : Int)
                · obtain ⟨c4, c5, c6⟩ := c3
                  have HU : Hid (uns s = (0, bPast, run)) := by rw [← hrun]; exact O.out.past (O.out.big22 c4 c5 c6)
                  have q6 : ((t.size : Int) == 22) = true := by simp; omega
                  have c4' : (0 : Int) < t.size := by omega
                  clear c5
                  go_wp2
                  go_ret3
                  exact ⟨by rw [HU.out]; rfl, 0, rfl⟩
                · have HV : Hid (rV 8 t.data.toList ≤ 18446744073709551615) := O.out.small22 (by omega) c3
                  by_cases c5 : t.size = 22
                  · have q6 : ((t.size : Int) == 22) = true := by simp; omega
                    have c4 : 0 < t.size := by omega
                    have c4' : (0 : Int) < t.size := by omega
                    have c6 : ¬ 50 ≤ (t[0].toNat : Int) := fun h => c3 ⟨c4, c5, h⟩
                    have c8 : 21 < t.size := by omega
                    have HU : Hid (uns s = (0, bPast, run)) := by rw [← hrun]; exact O.out.past2 hlj (O.out.big21 c8)
                    clear c5 c3
                    go_wp2
                    go_ret3
                    exact ⟨by rw [HU.out]; rfl, 0, rfl⟩
                  · have q6 : ((t.size : Int) == 22) = false := by simp; omega
                    have c8 : t.size ≤ 21 := by omega
                    have HU : Hid (uns s = unsOf (rV 8 t.data.toList : Int) (s.extract k s.size) ⟨#[]⟩ ⟨#[]⟩) := O.out.fits hlj (O.out.fits21 c8)
                    clear c5 c3
                    go_wp2
                    go_loop [14, 15] (fun v i => ∃ m : Nat, m ≤ t.size ∧ i = .int .i64 m ∧ v = .int .i64 (rV 8 (t.data.toList.drop (t.size - m)) : Int)) (fun _ i => t.size - (intOf i).toNat)
                    case atStart => exact ⟨0, Nat.zero_le _, rfl, by rw [List.drop_eq_nil_of_le (by simp)]; rfl⟩
                    case round =>
                      obtain ⟨m, hm, rfl, rfl⟩ := hrel
                      by_cases hlm : m < t.size
                      · obtain ⟨g1, g2⟩ := O.out.at' hlm
                        have hix : (t.size : Int) - 1 - m < t.size := by omega
                        have hix0 : (0 : Int) ≤ (t.size : Int) - 1 - m := by omega
                        go_wp2
                        go_round
                        case rel => exact ⟨m + 1, by omega, by go_num, congrArg (Value.int .i64) (O.out.round c8 hlm)⟩
                        case measure => simp [intOf]; omega
                      · obtain rfl : m = t.size := by omega
                        have e0 : t.data.toList.drop (t.size - t.size) = t.data.toList := by rw [Nat.sub_self, List.drop_zero]
                        rw [e0]
                        clear e0
                        go_wp2_with fail
                        refine (finish_o _ _ _).mono ?_
                        rintro e w' ⟨he, rfl⟩
                        unfold RetM at he
                        subst he
                        go_wp2
                        go_ret3
                        exact ⟨by rw [HU.out]; rfl, 0, rfl⟩
end Go.Proofs.Qxb6615880a
