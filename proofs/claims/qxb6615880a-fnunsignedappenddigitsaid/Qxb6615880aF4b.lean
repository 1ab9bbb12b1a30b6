/- FnUnsignedAppendDigit (4): the walk, 2. -/
import Derived.Test.Qxb6615880aF4
namespace Go.Proofs.Qxb6615880a
open Go.RowKit

/-- string([]byte{d}), whatever d. -/
theorem one_str' (d : UInt8) (wx : World) : (convert 31 9 (.slice (some ⟨wx.heap.size, 0, none⟩) 1 1)).run Try.prog (wx.alloc (.cells #[.int .u8 (d.toNat : Int)] 5)) = .ok (.string ⟨#[d]⟩) (wx.alloc (.cells #[.int .u8 (d.toNat : Int)] 5)) := by
  refine run_convert_bytes_back (P := Try.prog) _ 31 9 5 ⟨wx.heap.size, 0, none⟩ 1 [d] Try.underlying31 Try.underlying5 Try.underlying9 ?_
  intro j hj
  have hj0 : j = 0 := by simpa using hj
  subst hj0
  rw [Addr.add_lit, World.cell?_alloc_at _ _ _ _ rfl]
  simp

theorem one_str2 (d : UInt8) (wx : World) (o : Obj) : (convert 31 9 (.slice (some ⟨wx.heap.size + 1, 0, none⟩) 1 1)).run Try.prog ((wx.alloc o).alloc (.cells #[.int .u8 (d.toNat : Int)] 5)).drew = .ok (.string ⟨#[d]⟩) ((wx.alloc o).alloc (.cells #[.int .u8 (d.toNat : Int)] 5)).drew := by
  refine run_convert_bytes_back (P := Try.prog) _ 31 9 5 ⟨wx.heap.size + 1, 0, none⟩ 1 [d] Try.underlying31 Try.underlying5 Try.underlying9 ?_
  intro j hj
  have hj0 : j = 0 := by simpa using hj
  subst hj0
  rw [Addr.add_lit]
  show ((wx.alloc o).alloc (.cells #[.int .u8 (d.toNat : Int)] 5)).cell? _ = _
  rw [World.cell?_alloc_at _ _ _ _ (by simp)]
  simp

theorem more_past {n b v : Int} {t : ByteArray} (h : (9223372036854775807 - v) / b < n) : more n b v t = (0, bPast, t) := by unfold more; rw [if_pos h]
theorem more_go {n b v : Int} {t : ByteArray} (h : ¬ (9223372036854775807 - v) / b < n) : more n b v t = (n * b + v, ⟨#[]⟩, ⟨#[]⟩) := by unfold more; rw [if_neg h]

theorem hide {p : Prop} (h : p) : Hid p := h

set_option maxRecDepth 10000 in
set_option maxHeartbeats 1000000 in
theorem f4_early (s : ByteArray) (d : UInt8) (w : World) (hs : s.size ≤ maxLen) (h : 1048576 < s.size ∨ (uns s).2.1.toList.isEmpty = false) : Calls Try.prog 4 #[.string s, .int .u8 (d.toNat : Int)] w fun e w' => e = .returned (.bool true) ∧ Below w.heap.size w w' := by
  have HM : Hid (s.size ≤ maxLen) := hs
  unfold maxLen at hs
  by_cases h1 : (1048576 : Int) < s.size
  · clear h
    go_enter Try.func4, Try.ntmps4
    go_wp2_with fail
    refine (bytes10 _ _ _ HM.out).mono ?_
    rintro e w' ⟨rfl | rfl, rfl⟩
    all_goals
      go_wp2
      go_ret
      exact ⟨rfl, Below.refl _ _⟩
  · have h2 : (uns s).2.1.toList.isEmpty = false := by
      rcases h with h | h
      · exact absurd (by omega) h1
      · exact h
    clear h
    go_enter Try.func4, Try.ntmps4
    go_wp2_with fail
    refine (bytes10 _ _ _ HM.out).mono ?_
    rintro e w' ⟨rfl | rfl, rfl⟩
    · go_wp2_with fail
      refine (mod_any _ _ HM.out).mono ?_
      rintro e w2 ⟨he, n, rfl⟩
      unfold RetM at he
      subst he
      go_wp2
      go_ret
      exact ⟨rfl, below_drewN (Below.refl _ _) _⟩
    · go_wp2
      go_ret
      exact ⟨rfl, Below.refl _ _⟩

set_option maxRecDepth 10000 in
set_option maxHeartbeats 4000000 in
theorem f4_late (s t : ByteArray) (d : UInt8) (n : Int) (R : Int × ByteArray × ByteArray) (w : World) (hs : s.size ≤ maxLen) (h0 : 0 < s.size) (hb : s.size ≤ 1048576) (hu : uns s = (n, ⟨#[]⟩, ⟨#[]⟩)) (htt : s ++ ⟨#[d]⟩ = t) (hR : uns t = R) (hn0 : 0 ≤ n) (hn1 : n ≤ 9223372036854775807) (b : Int) (hb8 : b = 8 ∨ b = 10 ∨ b = 16) (hnb : nb s.data.toList = b)
    (hC : s.data.toList = [48] ∧ ((d.toNat : Int) = 120 ∨ (d.toNat : Int) = 88) ∧ R = (0, bMal, t) ∨
       ¬ (s.data.toList = [48] ∧ ((d.toNat : Int) = 120 ∨ (d.toNat : Int) = 88)) ∧
        ((16 ≤ dval d.toNat ∨ 10 ≤ dval d.toNat ∧ ¬ b = 16) ∧ R = (0, bAfter, ⟨#[d]⟩) ∨
         ¬ (16 ≤ dval d.toNat ∨ 10 ≤ dval d.toNat ∧ ¬ b = 16) ∧ b ≤ dval d.toNat ∧ R = (0, bMal, t) ∨
         ¬ (16 ≤ dval d.toNat ∨ 10 ≤ dval d.toNat ∧ ¬ b = 16) ∧ ¬ b ≤ dval d.toNat ∧ R = more n b (dval d.toNat) t)) :
    Calls Try.prog 4 #[.string s, .int .u8 (d.toNat : Int)] w fun e w' => e = .returned (.bool true) ∧ Below w.heap.size w w' := by
  have HM : Hid (s.size ≤ maxLen) := hs
  unfold maxLen at hs
  have HMt : Hid (t.size ≤ maxLen) := by show t.size ≤ maxLen; rw [← htt, ByteArray.size_append]; unfold maxLen; have : (⟨#[d]⟩ : ByteArray).size = 1 := rfl; omega
  have cM : Hid (∀ wx, Calls Try.prog 9 #[.string s] wx fun e w' => RetM (n, ⟨#[]⟩, ⟨#[]⟩) e ∧ ∃ n, w' = wx.drewN n) := fun wx => by rw [← hu]; exact mod_any s wx HM.out
  have cU : Hid (∀ wx, Calls Try.prog 8 #[.string s] wx fun e w' => RetF (n, ⟨#[]⟩, ⟨#[]⟩) e ∧ Below wx.heap.size wx w') := fun wx => by rw [← hu]; exact uns_any s wx HM.out
  have cT : Hid (∀ wx, Calls Try.prog 8 #[.string t] wx fun e w' => RetF R e ∧ Below wx.heap.size wx w') := fun wx => by rw [← hR]; exact uns_any t wx HMt.out
  have hcv : ∀ (wx : World) (o : Obj), (convert 31 9 (.slice (some ⟨wx.heap.size + 1, 0, none⟩) 1 1)).run Try.prog ((wx.alloc o).alloc (.cells #[.int .u8 (d.toNat : Int)] 5)) = .ok (.string ⟨#[d]⟩) ((wx.alloc o).alloc (.cells #[.int .u8 (d.toNat : Int)] 5)) := fun wx o => by have := one_str' d (wx.alloc o); rwa [World.size_alloc] at this
  have hcv2 : ∀ (wx : World) (o : Obj), (convert 31 9 (.slice (some ⟨wx.heap.size + 1, 0, none⟩) 1 1)).run Try.prog ((wx.alloc o).alloc (.cells #[.int .u8 (d.toNat : Int)] 5)).drew = .ok (.string ⟨#[d]⟩) ((wx.alloc o).alloc (.cells #[.int .u8 (d.toNat : Int)] 5)).drew := fun wx o => one_str2 d wx o
  have cB : Hid (∀ wx, Calls Try.prog 11 #[.string s] wx fun e w' => e = .returned (.int .i64 b) ∧ wx = w') := fun wx => by rw [← hnb]; exact base_any s wx HM.out h0
  have HC := hide hC
  have HB8 := hide hb8
  have hbm : bMal = ⟨#[109, 97, 108, 102, 111, 114, 109, 101, 100, 32, 110, 117, 109, 98, 101, 114]⟩ := rfl
  have hba : bAfter = ⟨#[97, 102, 116, 101, 114, 32, 116, 104, 101, 32, 110, 117, 109, 98, 101, 114]⟩ := rfl
  have hbp : bPast = ⟨#[112, 97, 115, 116, 32, 54, 52, 32, 98, 105, 116, 115]⟩ := rfl
  clear hu hR hnb hC hb8
  go_enter Try.func4, Try.ntmps4
  go_wp2_with fail
  refine (bytes10 _ _ _ HM.out).mono ?_
  rintro e w' ⟨rfl | rfl, rfl⟩
  rotate_left
  · go_wp2
    go_ret
    exact ⟨rfl, Below.refl _ _⟩
  go_wp2_with fail
  refine (cM.out _).mono ?_
  rintro e w2 ⟨he, k, rfl⟩
  unfold RetM at he
  subst he
  go_wp2_with fail
  refine (cU.out _).mono ?_
  rintro e w1 ⟨he, hb1⟩
  unfold RetF at he
  subst he
  have HB1 : Hid (Below w.heap.size w w1) := (below_drewN (Below.refl _ _) k).trans hb1
  have hz1 : w.heap.size ≤ w1.heap.size := HB1.out.size
  clear hb1
  go_wp2_with fail
  refine (cT.out _).mono ?_
  rintro e w3 ⟨he, hb2⟩
  unfold RetF at he
  subst he
  have hz3 : w1.heap.size + 2 ≤ w3.heap.size := by have := hb2.size; simpa using this
  have c0 : w3.cell? ⟨w1.heap.size, 0, none⟩ = some (.string ⟨#[]⟩) := by rw [hb2.cell (by simp; omega)]; simp
  have c1 : w3.cell? ⟨w1.heap.size, 1, none⟩ = some (.string ⟨#[]⟩) := by rw [hb2.cell (by simp; omega)]; simp
  have HB3 : Hid (Below w.heap.size w w3) := ((HB1.out.alloc hz1 _).alloc (by simp; omega) _).trans (hb2.mono (by simp; omega))
  clear hb2
  have hz4 : w1.heap.size < w3.heap.size := by omega
  have hz5 : w.heap.size ≤ w3.heap.size := by omega
  go_wp2_with fail
  refine (cB.out _).mono ?_
  rintro e w' ⟨rfl, rfl⟩
  go_wp2_with fail
  refine (hexVal_b _ _).mono ?_
  rintro e w' ⟨rfl, rfl⟩
  obtain ⟨v0, v1⟩ := dval_bd (d.toNat : Int)
  generalize dval (d.toNat : Int) = v at HC v0 v1 ⊢
  rcases HC.out with ⟨k1, k2, rfl⟩ | ⟨k1, ⟨k2, rfl⟩ | ⟨k2, k3, rfl⟩ | ⟨k2, k3, rfl⟩⟩
  · have g1 : (s.toList == [48]) = true := by rw [ByteArray.toList_eq, k1]; rfl
    clear HC k1
    by_cases k3 : (d.toNat : Int) = 120
    · have g2 : ((d.toNat : Int) == 120) = true := by simpa using k3
      clear k2 k3
      go_wp2
      go_ret
      exact ⟨rfl, HB3.out.alloc hz5 _⟩
    · have g2 : ((d.toNat : Int) == 120) = false := by simpa using k3
      have g3 : ((d.toNat : Int) == 88) = true := by simp; omega
      clear k2 k3
      go_wp2
      go_ret
      exact ⟨rfl, HB3.out.alloc hz5 _⟩
  · -- B: text behind the number
    by_cases hs0 : s.data.toList = [48]
    have g1 : (s.toList == [48]) = true := by rw [ByteArray.toList_eq, hs0]; rfl
    have g2 : ((d.toNat : Int) == 120) = false := by simp; intro h; exact k1 ⟨hs0, Or.inl h⟩
    have g3 : ((d.toNat : Int) == 88) = false := by simp; intro h; exact k1 ⟨hs0, Or.inr h⟩
    rotate_left
    have g1 : (s.toList == [48]) = false := by rw [ByteArray.toList_eq]; simpa using hs0
    rotate_left
    all_goals
      clear HC k1 hs0
      by_cases k3 : 16 ≤ v
      · clear k2
        go_wp2_with fail
        go_region
        all_goals go_wp2
        all_goals go_ret
        all_goals exact ⟨rfl, ((HB3.out.alloc hz5 _).alloc (by simp; omega) _).drew⟩
      · have k4 : decide (16 ≤ v) = false := by simpa using k3
        have k5 : 10 ≤ v := by omega
        have k6 : (b != 16) = true := by simp; omega
        clear k2
        go_wp2_with fail
        go_region
        all_goals go_wp2
        all_goals go_ret
        all_goals exact ⟨rfl, ((HB3.out.alloc hz5 _).alloc (by simp; omega) _).drew⟩
  · -- C: a digit outside the base
    have hb8 : b = 8 := by have := HB8.out; omega
    subst hb8
    have k4 : decide (16 ≤ v) = false := by simp; omega
    have k5 : decide (10 ≤ v) = false := by simp; omega
    by_cases hs0 : s.data.toList = [48]
    have g1 : (s.toList == [48]) = true := by rw [ByteArray.toList_eq, hs0]; rfl
    have g2 : ((d.toNat : Int) == 120) = false := by simp; intro h; exact k1 ⟨hs0, Or.inl h⟩
    have g3 : ((d.toNat : Int) == 88) = false := by simp; intro h; exact k1 ⟨hs0, Or.inr h⟩
    rotate_left
    have g1 : (s.toList == [48]) = false := by rw [ByteArray.toList_eq]; simpa using hs0
    rotate_left
    all_goals
      clear HC k1 hs0
      clear k2 HB8
      go_wp2
      go_ret
      exact ⟨rfl, HB3.out.alloc hz5 _⟩
  · -- D: one more digit
    have k6 : decide (n < 0) = false := by simp; omega
    have k4 : decide (16 ≤ v) = false := by simp; have := HB8.out; omega
    have hb16 : b = 16 ∨ b = 10 ∧ v < 10 ∨ b = 8 ∧ v < 8 := by have := HB8.out; omega
    clear HB8
    by_cases hs0 : s.data.toList = [48]
    have g1 : (s.toList == [48]) = true := by rw [ByteArray.toList_eq, hs0]; rfl
    have g2 : ((d.toNat : Int) == 120) = false := by simp; intro h; exact k1 ⟨hs0, Or.inl h⟩
    have g3 : ((d.toNat : Int) == 88) = false := by simp; intro h; exact k1 ⟨hs0, Or.inr h⟩
    rotate_left
    have g1 : (s.toList == [48]) = false := by rw [ByteArray.toList_eq]; simpa using hs0
    rotate_left
    all_goals
      clear HC k1 hs0
      rcases hb16 with hb16 | ⟨hb16, k7⟩ | ⟨hb16, k7⟩
      · subst hb16
        have k8 : ((16 : Int) != 16) = false := by decide
        clear k2
        by_cases hp : (9223372036854775807 - v) / 16 < n
        · rw [more_past hp]
          go_wp2
          all_goals
            go_ret
            exact ⟨rfl, HB3.out.alloc hz5 _⟩
        · rw [more_go hp]
          have hq : n * 16 + v ≤ 9223372036854775807 := by omega
          go_wp2
          all_goals
            go_ret
            exact ⟨rfl, HB3.out.alloc hz5 _⟩
      · subst hb16
        have k5 : decide (10 ≤ v) = false := by simp; omega
        clear k2
        by_cases hp : (9223372036854775807 - v) / 10 < n
        · rw [more_past hp]
          go_wp2
          go_ret
          exact ⟨rfl, HB3.out.alloc hz5 _⟩
        · rw [more_go hp]
          have hq : n * 10 + v ≤ 9223372036854775807 := by omega
          go_wp2
          go_ret
          exact ⟨rfl, HB3.out.alloc hz5 _⟩
      · subst hb16
        have k5 : decide (10 ≤ v) = false := by simp; omega
        clear k2
        by_cases hp : (9223372036854775807 - v) / 8 < n
        · rw [more_past hp]
          go_wp2
          go_ret
          exact ⟨rfl, HB3.out.alloc hz5 _⟩
        · rw [more_go hp]
          have hq : n * 8 + v ≤ 9223372036854775807 := by omega
          go_wp2
          go_ret
          exact ⟨rfl, HB3.out.alloc hz5 _⟩

theorem nb_is (l : List UInt8) : nb l = 8 ∨ nb l = 10 ∨ nb l = 16 := by
  match l with
  | [] => exact Or.inr (Or.inl rfl)
  | c :: r =>
    simp only [nb]
    by_cases h : hexHead (c :: r) = true
    · rw [if_pos h]; exact Or.inr (Or.inr rfl)
    · rw [if_neg h]
      by_cases h2 : (c.toNat : Int) = 48
      · rw [if_pos h2]; exact Or.inl rfl
      · rw [if_neg h2]; exact Or.inr (Or.inl rfl)

/-- THE WALK, WHATEVER THE INPUT. -/
theorem f4_any (s : ByteArray) (d : UInt8) (w : World) (hs : s.size ≤ maxLen) : Calls Try.prog 4 #[.string s, .int .u8 (d.toNat : Int)] w fun e w' => e = .returned (.bool true) ∧ Below w.heap.size w w' := by
  by_cases h1 : 1048576 < s.size
  · exact f4_early s d w hs (Or.inl h1)
  by_cases h2 : (uns s).2.1.toList.isEmpty = true
  · have ht : (s ++ ⟨#[d]⟩).data.toList = s.data.toList ++ [d] := by simp
    obtain ⟨n, hu, n0, n1, hC⟩ := app_law h2 ht
    obtain ⟨h0, _⟩ := wf_inv h2
    refine f4_late s (s ++ ⟨#[d]⟩) d n _ w hs h0 (by omega) hu rfl rfl n0 n1 (nb s.data.toList) ?_ rfl ?_
    · exact nb_is _
    · rcases hC with ⟨⟨_, a⟩, b, c⟩ | h
      · exact Or.inl ⟨a, b, c⟩
      · exact Or.inr h
  · exact f4_early s d w hs (Or.inr (by simpa using h2))
end Go.Proofs.Qxb6615880a
