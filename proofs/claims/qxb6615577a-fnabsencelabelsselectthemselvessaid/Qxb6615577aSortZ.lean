/- symMerge_func (52): the two short ways. -/
import Derived.Test.Qxb6615577aSortY
namespace Go.Proofs.Qxb6615577a
open Go.RowKit

/-- What the loops of symMerge keep. -/
def Sm (w1 wr : World) (blk n cap S : Nat) (e : Nat → Lab) : Prop := St wr blk n cap S e ∧ Oth blk w1 wr

set_option maxRecDepth 10000 in
set_option maxHeartbeats 4000000 in
theorem sym1 {w : World} {blk n cap S a m b : Nat} {d : Nat → Lab} (hn : n ≤ 1048576) (h : St w blk n cap S d) (hD : SP.Dist ltN n d) (hm : m = a + 1) (hab : m < b) (hbn : b ≤ n) (hs : SP.Sorted ltN m b d) :
    Calls Try.prog 52 #[.agg #[lessV S, swapV blk n cap], .int .i64 (a : Int), .int .i64 (m : Int), .int .i64 (b : Int)] w fun e w' => e = .returned (.tuple #[]) ∧ ∃ d', St w' blk n cap S d' ∧ SP.PermOn a b d d' ∧ SP.Sorted ltN a b d' ∧ Oth blk w w' := by
  have HB : Hid (Bx (w.alloc (.cells #[lessV S, swapV blk n cap] 87)) w.heap.size blk n cap S) := Bx.start h.row.lt
  have HS : Hid (St (w.alloc (.cells #[lessV S, swapV blk n cap] 87)) blk n cap S d) := h.alloc _
  have HD : Hid (SP.Dist ltN n d) := hD
  have HS2 : Hid (SP.Sorted ltN m b d) := hs
  have M1 : m ≤ a + 1 := by omega
  have M2 : a + 1 ≤ m := by omega
  have HM0 : Hid (m = a + 1) := hm
  clear h hD hs hm
  have E1 : Hid (lessV S = .func (.func 31) #[] #[.pointer (some ⟨S, 0, none⟩)] ∧ swapV blk n cap = .func (.func 50) #[] #[.slice (some ⟨blk, 0, none⟩) n cap, .pointer (some ⟨0, 31, none⟩)]) := ⟨rfl, rfl⟩
  have g0 : ((m : Int) - a == 1) = true := by simp; omega
  go_enter Try.func52, Try.ntmps52
  go_wp2
  go_loopw [8, 9] (fun x y wr => ∃ i j : Nat, m ≤ i ∧ i ≤ j ∧ j ≤ b ∧ x = .int .i64 i ∧ y = .int .i64 j ∧ Hid (Sm (w.alloc (.cells #[lessV S, swapV blk n cap] 87)) wr blk n cap S d ∧ (∀ h, m ≤ h → h < i → ltN (d h) (d a) = true) ∧ ∀ h, j ≤ h → h < b → ltN (d a) (d h) = true)) (fun x y _ => (intOf y).toNat - (intOf x).toNat)
  case atStart => exact ⟨m, b, Nat.le_refl _, by omega, Nat.le_refl _, rfl, rfl, ⟨HS.out, Oth.refl _ _⟩, fun h h1 h2 => by omega, fun h h1 h2 => by omega⟩
  case round =>
    obtain ⟨i, j, hi, hij, hj, rfl, rfl, HR⟩ := hrel
    obtain ⟨c0, c1, _, _⟩ := HB.out.step HR.out.1.2
    rw [E1.out.1] at c0
    rw [E1.out.2] at c1
    by_cases hlt : i < j
    · go_wp2_with fail
      refine (less_at HR.out.1.1 ((i + j) / 2) a _ _ (by omega) rfl (by omega) (by omega)).mono ?_
      rintro e' w' ⟨rfl, q, rfl⟩
      cases hl : ltN (d ((i + j) / 2)) (d a)
      · have HG : Hid (Sm (w.alloc (.cells #[lessV S, swapV blk n cap] 87)) (wr.drewN q) blk n cap S d ∧ (∀ h, m ≤ h → h < i → ltN (d h) (d a) = true) ∧ ∀ h, (i + j) / 2 ≤ h → h < b → ltN (d a) (d h) = true) := by
          refine ⟨⟨HR.out.1.1.drewN q, HR.out.1.2.drewN q⟩, HR.out.2.1, fun h h1 h2 => ?_⟩
          have hl' := HD.out.lt_of_not (by omega) (by omega) (by omega) hl
          by_cases e : h = (i + j) / 2
          · rw [e]; exact hl'
          · exact ordN.tr _ _ _ hl' (HS2.out _ _ (by omega) (by omega) h2)
        go_wp2
        go_roundw
        case rel => exact ⟨i, (i + j) / 2, hi, by omega, by omega, rfl, by go_num, HG.out⟩
        case measure => simp [intOf]; omega
      · have HG : Hid (Sm (w.alloc (.cells #[lessV S, swapV blk n cap] 87)) (wr.drewN q) blk n cap S d ∧ (∀ h, m ≤ h → h < (i + j) / 2 + 1 → ltN (d h) (d a) = true) ∧ ∀ h, j ≤ h → h < b → ltN (d a) (d h) = true) := by
          refine ⟨⟨HR.out.1.1.drewN q, HR.out.1.2.drewN q⟩, fun h h1 h2 => ?_, HR.out.2.2⟩
          by_cases e : h = (i + j) / 2
          · rw [e]; exact hl
          · exact ordN.tr _ _ _ (HS2.out _ _ h1 (by omega) (by omega)) hl
        go_wp2
        go_roundw
        case rel => exact ⟨(i + j) / 2 + 1, j, by omega, by omega, hj, by go_num, rfl, HG.out⟩
        case measure => simp [intOf]; omega
    · obtain rfl : i = j := by omega
      have HM : Hid (SP.Sorted ltN a b (SP.mvR a (i - 1) d)) := SP.merge1 (HM0.out ▸ HS2.out) (by omega) hj (HM0.out ▸ HR.out.2.1) HR.out.2.2
      go_wp2_with fail
      go_loopw [11] (fun x wr => ∃ k : Nat, a ≤ k ∧ k ≤ i - 1 ∧ x = .int .i64 k ∧ Hid (Sm (w.alloc (.cells #[lessV S, swapV blk n cap] 87)) wr blk n cap S (SP.mvR a k d) ∧ SP.PermOn a b d (SP.mvR a k d))) (fun x _ => i - (intOf x).toNat)
      case atStart => exact ⟨a, Nat.le_refl _, by omega, rfl, by rw [SP.mvR_start]; exact ⟨HR.out.1, SP.PermOn.refl _ _ _⟩⟩
      case round =>
        obtain ⟨k, hk0, hk, rfl, HK⟩ := hrel
        obtain ⟨c0, c1, _, _⟩ := HB.out.step HK.out.1.2
        rw [E1.out.1] at c0
        rw [E1.out.2] at c1
        by_cases hlt : k < i - 1
        · have hs := swap_at (cap := cap) HK.out.1.1.row (k : Int) ((k : Int) + 1) (i := k) (j := k + 1) rfl (by omega) (by omega) (by omega)
          have HG : Hid (Sm (w.alloc (.cells #[lessV S, swapV blk n cap] 87)) (swW wr blk k (k + 1) (SP.mvR a k d)) blk n cap S (SP.mvR a (k + 1) d) ∧ SP.PermOn a b d (SP.mvR a (k + 1) d)) := by
            rw [← SP.mvR_step d hk0]
            exact ⟨⟨HK.out.1.1.swap (by omega) (by omega), HK.out.1.2.trans (swW_oth _ _ _ _ _)⟩, HK.out.2.trans (SP.PermOn.swap _ (by omega) (by omega) (by omega) (by omega))⟩
          go_wp2
          go_roundw
          case rel => exact ⟨k + 1, by omega, by omega, by go_num, HG.out⟩
          case measure => simp [intOf]; omega
        · have HE : Hid (SP.Sorted ltN a b (SP.mvR a k d)) := by rw [show k = i - 1 by omega]; exact HM.out
          go_wp2
          refine bodyPost_ret (results_none rfl _ _ _) rfl ?_
          exact ⟨rfl, _, HK.out.1.1, HK.out.2, HE.out, ((Oth.refl _ _).alloc _).trans HK.out.1.2⟩
set_option maxRecDepth 10000 in
set_option maxHeartbeats 4000000 in
theorem sym2 {w : World} {blk n cap S a m b : Nat} {d : Nat → Lab} (hn : n ≤ 1048576) (h : St w blk n cap S d) (hD : SP.Dist ltN n d) (hm : b = m + 1) (hab : a + 1 < m) (hbn : b ≤ n) (hs : SP.Sorted ltN a m d) :
    Calls Try.prog 52 #[.agg #[lessV S, swapV blk n cap], .int .i64 (a : Int), .int .i64 (m : Int), .int .i64 (b : Int)] w fun e w' => e = .returned (.tuple #[]) ∧ ∃ d', St w' blk n cap S d' ∧ SP.PermOn a b d d' ∧ SP.Sorted ltN a b d' ∧ Oth blk w w' := by
  have HB : Hid (Bx (w.alloc (.cells #[lessV S, swapV blk n cap] 87)) w.heap.size blk n cap S) := Bx.start h.row.lt
  have HS : Hid (St (w.alloc (.cells #[lessV S, swapV blk n cap] 87)) blk n cap S d) := h.alloc _
  have HD : Hid (SP.Dist ltN n d) := hD
  have HS2 : Hid (SP.Sorted ltN a m d) := hs
  have M1 : b ≤ m + 1 := by omega
  have M2 : m + 1 ≤ b := by omega
  have HM0 : Hid (b = m + 1) := hm
  clear h hD hs hm
  have E1 : Hid (lessV S = .func (.func 31) #[] #[.pointer (some ⟨S, 0, none⟩)] ∧ swapV blk n cap = .func (.func 50) #[] #[.slice (some ⟨blk, 0, none⟩) n cap, .pointer (some ⟨0, 31, none⟩)]) := ⟨rfl, rfl⟩
  have g0 : ((m : Int) - a == 1) = false := by simp; omega
  have g1 : ((b : Int) - m == 1) = true := by simp; omega
  go_enter Try.func52, Try.ntmps52
  go_wp2
  go_loopw [12, 13] (fun x y wr => ∃ i j : Nat, a ≤ i ∧ i ≤ j ∧ j ≤ m ∧ x = .int .i64 i ∧ y = .int .i64 j ∧ Hid (Sm (w.alloc (.cells #[lessV S, swapV blk n cap] 87)) wr blk n cap S d ∧ (∀ h, a ≤ h → h < i → ltN (d h) (d m) = true) ∧ ∀ h, j ≤ h → h < m → ltN (d m) (d h) = true)) (fun x y _ => (intOf y).toNat - (intOf x).toNat)
  case atStart => exact ⟨a, m, Nat.le_refl _, by omega, Nat.le_refl _, rfl, rfl, ⟨HS.out, Oth.refl _ _⟩, fun h h1 h2 => by omega, fun h h1 h2 => by omega⟩
  case round =>
    obtain ⟨i, j, hi, hij, hj, rfl, rfl, HR⟩ := hrel
    obtain ⟨c0, c1, _, _⟩ := HB.out.step HR.out.1.2
    rw [E1.out.1] at c0
    rw [E1.out.2] at c1
    by_cases hlt : i < j
    · go_wp2_with fail
      refine (less_at HR.out.1.1 m ((i + j) / 2) _ _ rfl (by omega) (by omega) (by omega)).mono ?_
      rintro e' w' ⟨rfl, q, rfl⟩
      cases hl : ltN (d m) (d ((i + j) / 2))
      · have HG : Hid (Sm (w.alloc (.cells #[lessV S, swapV blk n cap] 87)) (wr.drewN q) blk n cap S d ∧ (∀ h, a ≤ h → h < (i + j) / 2 + 1 → ltN (d h) (d m) = true) ∧ ∀ h, j ≤ h → h < m → ltN (d m) (d h) = true) := by
          refine ⟨⟨HR.out.1.1.drewN q, HR.out.1.2.drewN q⟩, fun h h1 h2 => ?_, HR.out.2.2⟩
          have hl' := HD.out.lt_of_not (by omega) (by omega) (by omega) hl
          by_cases e : h = (i + j) / 2
          · rw [e]; exact hl'
          · exact ordN.tr _ _ _ (HS2.out _ _ h1 (by omega) (by omega)) hl'
        go_wp2
        go_roundw
        case rel => exact ⟨(i + j) / 2 + 1, j, by omega, by omega, hj, by go_num, rfl, HG.out⟩
        case measure => simp [intOf]; omega
      · have HG : Hid (Sm (w.alloc (.cells #[lessV S, swapV blk n cap] 87)) (wr.drewN q) blk n cap S d ∧ (∀ h, a ≤ h → h < i → ltN (d h) (d m) = true) ∧ ∀ h, (i + j) / 2 ≤ h → h < m → ltN (d m) (d h) = true) := by
          refine ⟨⟨HR.out.1.1.drewN q, HR.out.1.2.drewN q⟩, HR.out.2.1, fun h h1 h2 => ?_⟩
          by_cases e : h = (i + j) / 2
          · rw [e]; exact hl
          · exact ordN.tr _ _ _ hl (HS2.out _ _ (by omega) (by omega) h2)
        go_wp2
        go_roundw
        case rel => exact ⟨i, (i + j) / 2, hi, by omega, by omega, rfl, by go_num, HG.out⟩
        case measure => simp [intOf]; omega
    · obtain rfl : i = j := by omega
      have HM : Hid (SP.Sorted ltN a b (SP.mvL m i d)) := by rw [HM0.out]; exact SP.merge2 HS2.out hi hj HR.out.2.1 HR.out.2.2
      go_wp2_with fail
      go_loopw [15] (fun x wr => ∃ k : Nat, i ≤ k ∧ k ≤ m ∧ x = .int .i64 k ∧ Hid (Sm (w.alloc (.cells #[lessV S, swapV blk n cap] 87)) wr blk n cap S (SP.mvL m k d) ∧ SP.PermOn a b d (SP.mvL m k d))) (fun x _ => (intOf x).toNat)
      case atStart => exact ⟨m, hj, Nat.le_refl _, rfl, by rw [SP.mvL_start]; exact ⟨HR.out.1, SP.PermOn.refl _ _ _⟩⟩
      case round =>
        obtain ⟨k, hk0, hk, rfl, HK⟩ := hrel
        obtain ⟨c0, c1, _, _⟩ := HB.out.step HK.out.1.2
        rw [E1.out.1] at c0
        rw [E1.out.2] at c1
        by_cases hlt : i < k
        · have hs := swap_at (cap := cap) HK.out.1.1.row (k : Int) ((k : Int) - 1) (i := k) (j := k - 1) rfl (by omega) (by omega) (by omega)
          have HG : Hid (Sm (w.alloc (.cells #[lessV S, swapV blk n cap] 87)) (swW wr blk k (k - 1) (SP.mvL m k d)) blk n cap S (SP.mvL m (k - 1) d) ∧ SP.PermOn a b d (SP.mvL m (k - 1) d)) := by
            rw [← SP.mvL_step d hk (by omega)]
            exact ⟨⟨HK.out.1.1.swap (by omega) (by omega), HK.out.1.2.trans (swW_oth _ _ _ _ _)⟩, HK.out.2.trans (SP.PermOn.swap _ (by omega) (by omega) (by omega) (by omega))⟩
          go_wp2
          go_roundw
          case rel => exact ⟨k - 1, by omega, by omega, by go_num, HG.out⟩
          case measure => simp [intOf]; omega
        · have HE : Hid (SP.Sorted ltN a b (SP.mvL m k d)) := by rw [show k = i by omega]; exact HM.out
          go_wp2
          refine bodyPost_ret (results_none rfl _ _ _) rfl ?_
          exact ⟨rfl, _, HK.out.1.1, HK.out.2, HE.out, ((Oth.refl _ _).alloc _).trans HK.out.1.2⟩
end Go.Proofs.Qxb6615577a
