/- zzModelUnsigned (9): the decimal branch: the walk. -/
import Derived.Test.Qxb6615880aModD
namespace Go.Proofs.Qxb6615880a
open Go.RowKit

theorem finish_c (n : Int) (tail : ByteArray) (w : World) : Calls Try.prog 18 #[.int .i64 n, .string tail] w fun e w' => RetM (unsOf n tail ⟨#[]⟩ ⟨#[]⟩) e ∧ w = w' :=
  (finish_any n tail w).mono fun _ _ h => ⟨h.1, h.2.symm⟩

theorem size_list' (t : ByteArray) : t.data.toList.length = t.size := by simp

theorem bless_eq : ∀ x y : List UInt8, Op.bytesLess x y = bless x y
  | [], [] => rfl
  | _ :: _, [] => rfl
  | [], _ :: _ => rfl
  | a :: x, b :: y => by simp only [Op.bytesLess, bless, bless_eq x y]

theorem past_tests {run : ByteArray} (h : run.size = 19) (hd : allDg run.data.toList) (hv : 9223372036854775807 < rV 10 run.data.toList) :
    Op.bytesLess run.toList [57, 50, 50, 51, 51, 55, 50, 48, 51, 54, 56, 53, 52, 55, 55, 53, 56, 48, 55] = false ∧ (run.toList == [57, 50, 50, 51, 51, 55, 50, 48, 51, 54, 56, 53, 52, 55, 55, 53, 56, 48, 55]) = false := by
  have := (past_19 (by rw [size_list']; exact h) hd).2 hv
  rw [ByteArray.toList_eq, bless_eq]
  unfold maxDigits at this
  simpa using this

theorem fit_tests {run : ByteArray} (h : run.size = 19) (hd : allDg run.data.toList) (hv : rV 10 run.data.toList ≤ 9223372036854775807) :
    Op.bytesLess run.toList [57, 50, 50, 51, 51, 55, 50, 48, 51, 54, 56, 53, 52, 55, 55, 53, 56, 48, 55] = true ∨ (run.toList == [57, 50, 50, 51, 51, 55, 50, 48, 51, 54, 56, 53, 52, 55, 55, 53, 56, 48, 55]) = true := by
  have hn : ¬ (!(bless run.data.toList maxDigits || run.data.toList == maxDigits)) = true := by
    rw [past_19 (by rw [size_list']; exact h) hd]; omega
  rw [ByteArray.toList_eq, bless_eq]
  unfold maxDigits at hn
  cases h1 : bless run.data.toList [57, 50, 50, 51, 51, 55, 50, 48, 51, 54, 56, 53, 52, 55, 55, 53, 56, 48, 55]
  · rw [h1] at hn
    right
    simpa using hn
  · exact Or.inl rfl

/-- The round of the decimal reader. -/
theorem dec_round {t : ByteArray} {m q : Nat} (h : allDg t.data.toList) (hf : rV 10 t.data.toList ≤ 9223372036854775807) (h19 : t.size ≤ 19) (hm : m < t.size) (hq : q = 10 ^ m) :
    48 ≤ (t[t.size - 1 - m].toNat : Int) ∧ (t[t.size - 1 - m].toNat : Int) ≤ 57 ∧
    (rV 10 (t.data.toList.drop (t.size - (m + 1))) : Int) = (rV 10 (t.data.toList.drop (t.size - m)) : Int) + ((t[t.size - 1 - m].toNat : Int) - 48) * q ∧
    0 ≤ ((t[t.size - 1 - m].toNat : Int) - 48) * q ∧ ((t[t.size - 1 - m].toNat : Int) - 48) * q ≤ 9223372036854775807 ∧
    (rV 10 (t.data.toList.drop (t.size - m)) : Int) + ((t[t.size - 1 - m].toNat : Int) - 48) * q ≤ 9223372036854775807 ∧ q ≤ 1000000000000000000 := by
  have hl : t.data.toList.length = t.size := by simp
  have hk : t.size - (m + 1) < t.data.toList.length := by omega
  have e := rV_drop 10 t.data.toList (t.size - (m + 1)) hk
  have e1 : t.data.toList.length - 1 - (t.size - (m + 1)) = m := by omega
  have e2 : t.size - (m + 1) + 1 = t.size - m := by omega
  have e3 : t.data.toList[t.size - (m + 1)] = t[t.size - 1 - m] := by
    have : t.size - (m + 1) = t.size - 1 - m := by omega
    simp only [this]; rfl
  rw [e1, e2, e3, ← hq] at e
  have hc : isDg (t[t.size - 1 - m].toNat : Int) = true := h _ (by rw [← e3]; exact List.getElem_mem _)
  have hb := (isDg_iff _).1 hc
  have hd := dn_dg hc
  have hle := rV_drop_le 10 t.data.toList (t.size - (m + 1))
  have hq18 : q ≤ 10 ^ 18 := by rw [hq]; exact pow_le 10 (by omega) (by omega)
  have e18 : (10 : Nat) ^ 18 = 1000000000000000000 := by decide
  have e4 : ((t[t.size - 1 - m].toNat : Int) - 48) * q = ((dn t[t.size - 1 - m] * q : Nat) : Int) := by
    rw [Int.natCast_mul]; congr 1; omega
  rw [e4, e]
  refine ⟨hb.1, hb.2, ?_, ?_, ?_, ?_, ?_⟩ <;> omega

set_option maxRecDepth 10000 in
set_option maxHeartbeats 8000000 in
theorem mod_dec (s : ByteArray) (w : World) (hs : s.size ≤ maxLen) (h0 : 0 < s.size) (hn : NotHex s) (h1 : isDg (s[0].toNat : Int) = true) (h2 : ¬ (s[0].toNat : Int) = 48) :
    Calls Try.prog 9 #[.string s] w fun e w' => RetM (uns s) e ∧ ∃ n, w' = w.drewN n := by
  have he : s.toList.isEmpty = false := by rw [ByteArray.toList_eq, list_cons s (by omega)]; rfl
  have HM : Hid (s.size ≤ maxLen) := hs
  have H : Hid (NotHex s ∧ isDg (s[0].toNat : Int) = true ∧ ¬ (s[0].toNat : Int) = 48) := ⟨hn, h1, h2⟩
  have hb := (isDg_iff _).1 h1
  unfold maxLen at hs
  have h0' : (0 : Int) < (s.size : Int) := by omega
  have a1 : ¬ (s[0].toNat : Int) < 48 := by omega
  have a2 : ¬ 57 < (s[0].toNat : Int) := by omega
  have a3 : decide ((s[0].toNat : Int) < 48) = false := by simpa using a1
  have q1 : ((s[0].toNat : Int) == 48) = false := by simpa using h2
  clear h2 hn h1 hb
  by_cases hsz : (2 : Int) ≤ s.size
  · go_enter Try.func9, Try.ntmps9
    go_wp2_with fail
    go_loop [9] (fun i => ∃ k : Nat, 1 ≤ k ∧ k ≤ s.size ∧ i = .int .i64 k ∧ Hid (runEnd pDec s.data.toList 1 = runEnd pDec s.data.toList k)) (fun i => s.size - (intOf i).toNat)
    case atStart => exact ⟨1, Nat.le_refl _, by omega, rfl, rfl⟩
    case round =>
      obtain ⟨k, hk0, hk, rfl, HE⟩ := hrel
      by_cases hp : ∃ h : k < s.size, isDg (s[k].toNat : Int) = true
      · obtain ⟨hlt, hp⟩ := hp
        have hlt' : (k : Int) < s.size := by omega
        have HN : Hid (runEnd pDec s.data.toList k = runEnd pDec s.data.toList (k + 1)) := runEnd_step hlt hp
        obtain ⟨b1, b2⟩ := (isDg_iff _).1 hp
        clear hp
        go_wp2_with fail
        go_round
        case rel => exact ⟨k + 1, by omega, by omega, by go_num, HE.out.trans HN.out⟩
        case measure => simp [intOf]; omega
      · have HN : Hid (runEnd pDec s.data.toList 1 = k) := by
          refine HE.out.trans ?_
          by_cases hlt : k < s.size
          · exact runEnd_stop hlt (by cases h : pDec s[k]; rfl; exact absurd ⟨hlt, h⟩ hp)
          · exact runEnd_end (by omega)
        clear HE
        obtain ⟨run, hrun⟩ : ∃ r, s.extract 0 k = r := ⟨_, rfl⟩
        have hrs : run.size = k := by rw [← hrun, ByteArray.size_extract]; omega
        have HR : Hid (run.size = k) := hrs
        have hr1 : run.size ≤ 9223372036854775807 := by omega
        have hr2 : 1 ≤ run.size := by omega
        clear hrs
        have HG : Hid (Sig 10 run.data.toList ∧ allDg run.data.toList) := by
          rw [← hrun]; exact ⟨dec_sig h0 H.out.2.1 H.out.2.2 HN.out hk0, (dec_run h0 H.out.2.1 HN.out hk0).2⟩
        by_cases hlt : k < s.size
        have hlt' : (k : Int) < s.size := by omega
        by_cases d1 : 48 ≤ (s[k].toNat : Int)
        have d2 : ¬ (s[k].toNat : Int) ≤ 57 := fun h => hp ⟨hlt, (isDg_iff _).2 ⟨d1, h⟩⟩
        rotate_left
        have d3 : decide (48 ≤ (s[k].toNat : Int)) = false := by simpa using d1
        rotate_left
        rotate_left
        all_goals
          clear hp
          by_cases c1 : (19 : Int) < run.size
          · have HU : Hid (uns s = (0, bPast, run)) := by
              rw [← hrun]
              exact uns_dec_past h0 H.out.1 H.out.2.1 H.out.2.2 HN.out hk0 (by rw [hrun]; exact dec_past_long HG.out.1 (by rw [size_list']; omega))
            go_wp2
            go_ret3
            exact ⟨by rw [HU.out]; rfl, 0, rfl⟩
          · by_cases c2 : run.size = 19 ∧ 9223372036854775807 < rV 10 run.data.toList
            · obtain ⟨c3, c4⟩ := c2
              have HU : Hid (uns s = (0, bPast, run)) := by
                rw [← hrun]
                exact uns_dec_past h0 H.out.1 H.out.2.1 H.out.2.2 HN.out hk0 (by rw [hrun]; exact c4)
              obtain ⟨e1, e2⟩ := past_tests c3 HG.out.2 c4
              have q6 : ((run.size : Int) == 19) = true := by simp; omega
              clear c3 c4
              go_wp2
              go_ret3
              exact ⟨by rw [HU.out]; rfl, 0, rfl⟩
            · have hfit : rV 10 run.data.toList ≤ 9223372036854775807 := by
                by_cases c3 : run.size = 19
                · have : ¬ 9223372036854775807 < rV 10 run.data.toList := fun h => c2 ⟨c3, h⟩
                  omega
                · exact dec_fits_short HG.out.1.1 (by rw [size_list']; omega)
              have HF : Hid (rV 10 run.data.toList ≤ 9223372036854775807) := hfit
              have HU : Hid (uns s = unsOf (rV 10 run.data.toList : Int) (s.extract k s.size) ⟨#[]⟩ ⟨#[]⟩) := by
                rw [← hrun]
                exact uns_dec_fits h0 H.out.1 H.out.2.1 H.out.2.2 HN.out hk0 (by rw [hrun]; exact hfit)
              clear c2
              by_cases c3 : run.size = 19
              have q6 : ((run.size : Int) == 19) = true := by simp; omega
              have ho := fit_tests c3 HG.out.2 hfit
              by_cases e1 : Op.bytesLess run.toList [57, 50, 50, 51, 51, 55, 50, 48, 51, 54, 56, 53, 52, 55, 55, 53, 56, 48, 55] = true
              rotate_left
              have e2 : (run.toList == [57, 50, 50, 51, 51, 55, 50, 48, 51, 54, 56, 53, 52, 55, 55, 53, 56, 48, 55]) = true := ho.resolve_left e1
              rotate_left
              have q6 : ((run.size : Int) == 19) = false := by simp; omega
              all_goals
                have c7 : run.size ≤ 19 := by omega
                clear c3 hfit
                go_wp2
                go_loop [16, 17, 18] (fun v p i => ∃ j q : Nat, j ≤ run.size ∧ i = .int .i64 ((run.size : Int) - 1 - j) ∧ v = .int .i64 (rV 10 (run.data.toList.drop (run.size - j)) : Int) ∧ p = .int .i64 q ∧ Hid (j < run.size → q = 10 ^ j)) (fun _ _ i => (intOf i + 1).toNat)
                case atStart => exact ⟨0, 1, Nat.zero_le _, by simp, by rw [List.drop_eq_nil_of_le (by simp)]; rfl, rfl, fun _ => rfl⟩
                case round =>
                  obtain ⟨j, q, hj, rfl, rfl, rfl, HQ⟩ := hrel
                  by_cases hlj : j < run.size
                  · obtain ⟨d1, d2, V, m1, m2, m3, m4⟩ := dec_round HG.out.2 HF.out c7 hlj (HQ.out hlj)
                    by_cases g1 : (0 : Int) < (run.size : Int) - 1 - j
                    rotate_left
                    · clear V
                      go_wp2
                      go_round
                      case rel => exact ⟨j + 1, q, by omega, by go_num, congrArg (Value.int .i64) (dec_round HG.out.2 HF.out c7 hlj (HQ.out hlj)).2.2.1.symm, rfl, fun h => absurd h (by omega)⟩
                      case measure => simp [intOf]; omega
                    · clear V
                      have hq2 : q * 10 = 10 ^ (j + 1) := by rw [HQ.out hlj, Nat.pow_succ]
                      have HQ2 : Hid (q * 10 = 10 ^ (j + 1)) := hq2
                      have m5 : (q : Int) * 10 ≤ 1000000000000000000 := by
                        have h18 := pow_le 10 (by omega) (m := j + 1) (n := 18) (by omega)
                        have e18 : (10 : Nat) ^ 18 = 1000000000000000000 := by decide
                        omega
                      clear hq2
                      go_wp2
                      go_round
                      case rel => exact ⟨j + 1, q * 10, by omega, by go_num, congrArg (Value.int .i64) (dec_round HG.out.2 HF.out c7 hlj (HQ.out hlj)).2.2.1.symm, by go_num, fun _ => HQ2.out⟩
                      case measure => simp [intOf]; omega
                  · obtain rfl : j = run.size := by omega
                    have e0 : run.data.toList.drop (run.size - run.size) = run.data.toList := by rw [Nat.sub_self, List.drop_zero]
                    rw [e0]
                    clear e0
                    go_wp2_with fail
                    refine (finish_c _ _ _).mono ?_
                    rintro e w' ⟨he, rfl⟩
                    unfold RetM at he
                    subst he
                    go_wp2
                    go_ret3
                    exact ⟨by rw [HU.out]; rfl, 0, rfl⟩
  · have hsz' : decide ((2 : Int) ≤ s.size) = false := by simpa using hsz
    go_enter Try.func9, Try.ntmps9
    go_wp2_with fail
    go_loop [9] (fun i => ∃ k : Nat, 1 ≤ k ∧ k ≤ s.size ∧ i = .int .i64 k ∧ Hid (runEnd pDec s.data.toList 1 = runEnd pDec s.data.toList k)) (fun i => s.size - (intOf i).toNat)
    case atStart => exact ⟨1, Nat.le_refl _, by omega, rfl, rfl⟩
    case round =>
      obtain ⟨k, hk0, hk, rfl, HE⟩ := hrel
      by_cases hp : ∃ h : k < s.size, isDg (s[k].toNat : Int) = true
      · exfalso
        obtain ⟨hlt, _⟩ := hp
        omega
      · have HN : Hid (runEnd pDec s.data.toList 1 = k) := by
          refine HE.out.trans ?_
          by_cases hlt : k < s.size
          · exact runEnd_stop hlt (by cases h : pDec s[k]; rfl; exact absurd ⟨hlt, h⟩ hp)
          · exact runEnd_end (by omega)
        clear HE
        obtain ⟨run, hrun⟩ : ∃ r, s.extract 0 k = r := ⟨_, rfl⟩
        have hrs : run.size = k := by rw [← hrun, ByteArray.size_extract]; omega
        have HR : Hid (run.size = k) := hrs
        have hr1 : run.size ≤ 9223372036854775807 := by omega
        have hr2 : 1 ≤ run.size := by omega
        clear hrs
        have HG : Hid (Sig 10 run.data.toList ∧ allDg run.data.toList) := by
          rw [← hrun]; exact ⟨dec_sig h0 H.out.2.1 H.out.2.2 HN.out hk0, (dec_run h0 H.out.2.1 HN.out hk0).2⟩
        by_cases hlt : k < s.size
        · exfalso; omega
        all_goals
          clear hp
          by_cases c1 : (19 : Int) < run.size
          · have HU : Hid (uns s = (0, bPast, run)) := by
              rw [← hrun]
              exact uns_dec_past h0 H.out.1 H.out.2.1 H.out.2.2 HN.out hk0 (by rw [hrun]; exact dec_past_long HG.out.1 (by rw [size_list']; omega))
            go_wp2
            go_ret3
            exact ⟨by rw [HU.out]; rfl, 0, rfl⟩
          · by_cases c2 : run.size = 19 ∧ 9223372036854775807 < rV 10 run.data.toList
            · obtain ⟨c3, c4⟩ := c2
              have HU : Hid (uns s = (0, bPast, run)) := by
                rw [← hrun]
                exact uns_dec_past h0 H.out.1 H.out.2.1 H.out.2.2 HN.out hk0 (by rw [hrun]; exact c4)
              obtain ⟨e1, e2⟩ := past_tests c3 HG.out.2 c4
              have q6 : ((run.size : Int) == 19) = true := by simp; omega
              clear c3 c4
              go_wp2
              go_ret3
              exact ⟨by rw [HU.out]; rfl, 0, rfl⟩
            · have hfit : rV 10 run.data.toList ≤ 9223372036854775807 := by
                by_cases c3 : run.size = 19
                · have : ¬ 9223372036854775807 < rV 10 run.data.toList := fun h => c2 ⟨c3, h⟩
                  omega
                · exact dec_fits_short HG.out.1.1 (by rw [size_list']; omega)
              have HF : Hid (rV 10 run.data.toList ≤ 9223372036854775807) := hfit
              have HU : Hid (uns s = unsOf (rV 10 run.data.toList : Int) (s.extract k s.size) ⟨#[]⟩ ⟨#[]⟩) := by
                rw [← hrun]
                exact uns_dec_fits h0 H.out.1 H.out.2.1 H.out.2.2 HN.out hk0 (by rw [hrun]; exact hfit)
              clear c2
              by_cases c3 : run.size = 19
              have q6 : ((run.size : Int) == 19) = true := by simp; omega
              have ho := fit_tests c3 HG.out.2 hfit
              by_cases e1 : Op.bytesLess run.toList [57, 50, 50, 51, 51, 55, 50, 48, 51, 54, 56, 53, 52, 55, 55, 53, 56, 48, 55] = true
              rotate_left
              have e2 : (run.toList == [57, 50, 50, 51, 51, 55, 50, 48, 51, 54, 56, 53, 52, 55, 55, 53, 56, 48, 55]) = true := ho.resolve_left e1
              rotate_left
              have q6 : ((run.size : Int) == 19) = false := by simp; omega
              all_goals
                have c7 : run.size ≤ 19 := by omega
                clear c3 hfit
                go_wp2
                go_loop [16, 17, 18] (fun v p i => ∃ j q : Nat, j ≤ run.size ∧ i = .int .i64 ((run.size : Int) - 1 - j) ∧ v = .int .i64 (rV 10 (run.data.toList.drop (run.size - j)) : Int) ∧ p = .int .i64 q ∧ Hid (j < run.size → q = 10 ^ j)) (fun _ _ i => (intOf i + 1).toNat)
                case atStart => exact ⟨0, 1, Nat.zero_le _, by simp, by rw [List.drop_eq_nil_of_le (by simp)]; rfl, rfl, fun _ => rfl⟩
                case round =>
                  obtain ⟨j, q, hj, rfl, rfl, rfl, HQ⟩ := hrel
                  by_cases hlj : j < run.size
                  · obtain ⟨d1, d2, V, m1, m2, m3, m4⟩ := dec_round HG.out.2 HF.out c7 hlj (HQ.out hlj)
                    by_cases g1 : (0 : Int) < (run.size : Int) - 1 - j
                    rotate_left
                    · clear V
                      go_wp2
                      go_round
                      case rel => exact ⟨j + 1, q, by omega, by go_num, congrArg (Value.int .i64) (dec_round HG.out.2 HF.out c7 hlj (HQ.out hlj)).2.2.1.symm, rfl, fun h => absurd h (by omega)⟩
                      case measure => simp [intOf]; omega
                    · clear V
                      have hq2 : q * 10 = 10 ^ (j + 1) := by rw [HQ.out hlj, Nat.pow_succ]
                      have HQ2 : Hid (q * 10 = 10 ^ (j + 1)) := hq2
                      have m5 : (q : Int) * 10 ≤ 1000000000000000000 := by
                        have h18 := pow_le 10 (by omega) (m := j + 1) (n := 18) (by omega)
                        have e18 : (10 : Nat) ^ 18 = 1000000000000000000 := by decide
                        omega
                      clear hq2
                      go_wp2
                      go_round
                      case rel => exact ⟨j + 1, q * 10, by omega, by go_num, congrArg (Value.int .i64) (dec_round HG.out.2 HF.out c7 hlj (HQ.out hlj)).2.2.1.symm, by go_num, fun _ => HQ2.out⟩
                      case measure => simp [intOf]; omega
                  · obtain rfl : j = run.size := by omega
                    have e0 : run.data.toList.drop (run.size - run.size) = run.data.toList := by rw [Nat.sub_self, List.drop_zero]
                    rw [e0]
                    clear e0
                    go_wp2_with fail
                    refine (finish_c _ _ _).mono ?_
                    rintro e w' ⟨he, rfl⟩
                    unfold RetM at he
                    subst he
                    go_wp2
                    go_ret3
                    exact ⟨by rw [HU.out]; rfl, 0, rfl⟩
end Go.Proofs.Qxb6615880a
