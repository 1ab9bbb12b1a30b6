/- insertionSort_func (51): the contract. -/
import Derived.Test.Qxb6615577aSortX
namespace Go.Proofs.Qxb6615577a
open Go.RowKit

theorem bl_irr : ∀ x : List UInt8, Op.bytesLess x x = false
  | [] => rfl
  | a :: x => by simp [Op.bytesLess, bl_irr x, UInt8.lt_irrefl]
theorem bl_tr : ∀ x y z : List UInt8, Op.bytesLess x y = true → Op.bytesLess y z = true → Op.bytesLess x z = true
  | _, _, [], _, h => by cases ‹List UInt8› <;> simp [Op.bytesLess] at h
  | [], _, _ :: _, _, _ => rfl
  | a :: x, [], _ :: _, h, _ => by simp [Op.bytesLess] at h
  | a :: x, b :: y, c :: z, h1, h2 => by
    simp only [Op.bytesLess, Bool.or_eq_true, decide_eq_true_eq, Bool.and_eq_true, beq_iff_eq] at h1 h2 ⊢
    rcases h1 with h1 | ⟨rfl, h1⟩
    · rcases h2 with h2 | ⟨rfl, h2⟩
      · exact Or.inl (UInt8.lt_trans h1 h2)
      · exact Or.inl h1
    · rcases h2 with h2 | ⟨rfl, h2⟩
      · exact Or.inl h2
      · exact Or.inr ⟨rfl, bl_tr x y z h1 h2⟩

theorem ordN : SP.Ord ltN := ⟨fun _ => bl_irr _, fun _ _ _ h1 h2 => bl_tr _ _ _ h1 h2⟩

theorem less_at {w : World} {blk n cap S : Nat} {d : Nat → Lab} (h : St w blk n cap S d) (i j : Nat) (x y : Int) (hx : x = i) (hy : y = j) (hi : i < n) (hj : j < n) :
    Calls Try.prog 31 #[.int .i64 x, .int .i64 y, .pointer (some ⟨S, 0, none⟩)] w fun e w' => e = .returned (.bool (ltN (d i) (d j))) ∧ ∃ k, w' = w.drewN k := by
  subst hx hy; exact less31 h.row h.set hi hj

set_option maxHeartbeats 2000000 in
theorem insertion_any {w : World} {blk n cap S a b : Nat} {d : Nat → Lab} (hn : n ≤ 1048576) (h : St w blk n cap S d) (hD : SP.Dist ltN n d) (hab : a < b) (hbn : b ≤ n) :
    Calls Try.prog 51 #[.agg #[lessV S, swapV blk n cap], .int .i64 (a : Int), .int .i64 (b : Int)] w fun e w' => e = .returned (.tuple #[]) ∧ ∃ d', St w' blk n cap S d' ∧ SP.PermOn a b d d' ∧ SP.Sorted ltN a b d' ∧ Oth blk w w' := by
  have HB : Hid (Bx (w.alloc (.cells #[lessV S, swapV blk n cap] 87)) w.heap.size blk n cap S) := Bx.start h.row.lt
  have HS : Hid (St (w.alloc (.cells #[lessV S, swapV blk n cap] 87)) blk n cap S d) := h.alloc _
  have HD : Hid (SP.Dist ltN n d) := hD
  clear h hD
  have e1 : lessV S = .func (.func 31) #[] #[.pointer (some ⟨S, 0, none⟩)] := rfl
  have e2 : swapV blk n cap = .func (.func 50) #[] #[.slice (some ⟨blk, 0, none⟩) n cap, .pointer (some ⟨0, 31, none⟩)] := rfl
  have E1 : Hid (lessV S = .func (.func 31) #[] #[.pointer (some ⟨S, 0, none⟩)] ∧ swapV blk n cap = .func (.func 50) #[] #[.slice (some ⟨blk, 0, none⟩) n cap, .pointer (some ⟨0, 31, none⟩)]) := ⟨e1, e2⟩
  clear e1 e2
  go_enter Try.func51, Try.ntmps51
  go_wp2
  go_loopw [6] (fun i wr => ∃ k : Nat, a + 1 ≤ k ∧ k ≤ b ∧ i = .int .i64 k ∧ Hid (∃ e, St wr blk n cap S e ∧ Oth blk (w.alloc (.cells #[lessV S, swapV blk n cap] 87)) wr ∧ SP.Sorted ltN a k e ∧ SP.PermOn a b d e)) (fun i _ => b - (intOf i).toNat)
  case atStart => exact ⟨a + 1, Nat.le_refl _, by omega, by go_num, d, HS.out, Oth.refl _ _, SP.Sorted.of_le_one d (by omega), SP.PermOn.refl _ _ _⟩
  case round =>
    obtain ⟨k, hk0, hk, rfl, e, hst, hoth, hsort, hperm⟩ := hrel
    have HE : Hid (St wr blk n cap S e ∧ Oth blk (w.alloc (.cells #[lessV S, swapV blk n cap] 87)) wr ∧ SP.Sorted ltN a k e ∧ SP.PermOn a b d e) := ⟨hst, hoth, hsort, hperm⟩
    clear hst hoth hsort hperm
    by_cases hlt : k < b
    · go_wp2
      go_loopw [7] (fun i wx => ∃ j : Nat, a ≤ j ∧ j ≤ k ∧ i = .int .i64 j ∧ Hid (∃ f, St wx blk n cap S f ∧ Oth blk (w.alloc (.cells #[lessV S, swapV blk n cap] 87)) wx ∧ SP.Ins ltN a k j f ∧ SP.PermOn a b d f)) (fun i _ => (intOf i).toNat)
      case atStart => exact ⟨k, by omega, Nat.le_refl _, rfl, e, HE.out.1, HE.out.2.1, SP.Ins.start HE.out.2.2.1, HE.out.2.2.2⟩
      case round =>
        obtain ⟨j, hj0, hj, rfl, f, fst, foth, fins, fperm⟩ := hrel
        have HF : Hid (St wr blk n cap S f ∧ Oth blk (w.alloc (.cells #[lessV S, swapV blk n cap] 87)) wr ∧ SP.Ins ltN a k j f ∧ SP.PermOn a b d f) := ⟨fst, foth, fins, fperm⟩
        obtain ⟨c0, c1, _, _⟩ := HB.out.step foth
        rw [E1.out.1] at c0
        rw [E1.out.2] at c1
        clear fst foth fins fperm
        by_cases haj : a < j
        · have g1 : (a : Int) < j := by omega
          go_wp2_with fail
          refine (less_at HF.out.1 j (j - 1) _ _ rfl (by omega) (by omega) (by omega)).mono ?_
          rintro e' w' ⟨rfl, q, rfl⟩
          cases hl : ltN (f j) (f (j - 1))
          · have HG : Hid (SP.Sorted ltN a (k + 1) f) := HF.out.2.2.1.done ordN hj0 hj (Or.inr ((HD.out.perm HF.out.2.2.2 hbn).lt_of_not (by omega) (by omega) (by omega) hl))
            go_wp2
            go_roundw
            case rel => exact ⟨k + 1, by omega, by omega, by go_num, f, HF.out.1.drewN _, HF.out.2.1.drewN _, HG.out, HF.out.2.2.2⟩
            case measure => simp [intOf]; omega
          · have hs := swap_at (cap := cap) (HF.out.1.row.drewN q) (j : Int) ((j : Int) - 1) (i := j) (j := j - 1) rfl (by omega) (by omega) (by omega)
            have HG : Hid (St (swW (wr.drewN q) blk j (j - 1) f) blk n cap S (SP.swp j (j - 1) f) ∧ Oth blk (w.alloc (.cells #[lessV S, swapV blk n cap] 87)) (swW (wr.drewN q) blk j (j - 1) f) ∧ SP.Ins ltN a k (j - 1) (SP.swp j (j - 1) f) ∧ SP.PermOn a b d (SP.swp j (j - 1) f)) :=
              ⟨(HF.out.1.drewN q).swap (by omega) (by omega), (HF.out.2.1.drewN q).trans (swW_oth _ _ _ _ _), HF.out.2.2.1.step haj hj hl, HF.out.2.2.2.trans (SP.PermOn.swap _ (by omega) (by omega) (by omega) (by omega))⟩
            go_wp2
            go_roundw
            case rel => exact ⟨j - 1, by omega, by omega, by go_num, _, HG.out⟩
            case measure => simp [intOf]; omega
        · obtain rfl : j = a := by omega
          have HG : Hid (SP.Sorted ltN j (k + 1) f) := HF.out.2.2.1.done ordN hj0 hj (Or.inl rfl)
          go_wp2
          go_roundw
          case rel => exact ⟨k + 1, by omega, by omega, by go_num, f, HF.out.1, HF.out.2.1, HG.out, HF.out.2.2.2⟩
          case measure => simp [intOf]; omega
    · obtain rfl : k = b := by omega
      go_wp2
      go_end0
      exact ⟨rfl, e, HE.out.1, HE.out.2.2.2, HE.out.2.2.1, ((Oth.refl _ _).alloc _).trans HE.out.2.1⟩
end Go.Proofs.Qxb6615577a
