/- stable_func (37): the contract. -/
import Derived.Test.Qxb6615577aSortS
namespace Go.Proofs.Qxb6615577a
open Go.RowKit

theorem dvd_step {k x a : Nat} (h1 : k ∣ x) (h2 : k ∣ a) (h : x < a) : x + k ≤ a := by
  obtain ⟨u, rfl⟩ := h1
  obtain ⟨v, rfl⟩ := h2
  have huv : u < v := by
    rcases Nat.lt_or_ge u v with h' | h'
    · exact h'
    · exact absurd (Nat.mul_le_mul_left k h') (by omega)
  have := Nat.mul_le_mul_left k (show u + 1 ≤ v from huv)
  rwa [Nat.mul_add, Nat.mul_one] at this

/-- Runs of length sz. -/
def Runs (sz n : Nat) (e : Nat → Lab) : Prop := ∀ x, sz ∣ x → SP.Sorted ltN x (min (x + sz) n) e

/-- Of the runs of 2 sz: those below a are done, from a on those of sz stand. -/
def Half (sz n a : Nat) (e : Nat → Lab) : Prop := (∀ x, 2 * sz ∣ x → x < a → SP.Sorted ltN x (x + 2 * sz) e) ∧ ∀ x, sz ∣ x → a ≤ x → SP.Sorted ltN x (min (x + sz) n) e

theorem Half.start {sz n : Nat} {e : Nat → Lab} (h : Runs sz n e) : Half sz n 0 e := ⟨fun _ _ h0 => by omega, fun x hx _ => h x hx⟩

theorem Half.parts {sz n a : Nat} {e : Nat → Lab} (h : Half sz n a e) (ha : 2 * sz ∣ a) {b : Nat} (hb : a + sz ≤ b) (hb2 : b ≤ a + 2 * sz) (hn : b ≤ n) : SP.Sorted ltN a (a + sz) e ∧ SP.Sorted ltN (a + sz) b e := by
  have hs : sz ∣ a := Nat.dvd_trans (Nat.dvd_mul_left sz 2) ha
  refine ⟨(h.2 a hs (Nat.le_refl _)).mono (Nat.le_refl _) (by omega), (h.2 (a + sz) (Nat.dvd_add hs (Nat.dvd_refl _)) (by omega)).mono (Nat.le_refl _) (by omega)⟩

theorem Half.step {sz n a : Nat} {e f : Nat → Lab} (h : Half sz n a e) (ha : 2 * sz ∣ a) (hp : SP.PermOn a (a + 2 * sz) e f) (hs : SP.Sorted ltN a (a + 2 * sz) f) : Half sz n (a + 2 * sz) f := by
  refine ⟨fun x hx hlt => ?_, fun x hx hle => ?_⟩
  · by_cases c : x < a
    · have := dvd_step hx ha c
      exact (h.1 x hx c).congr fun y _ y2 => hp.out (Or.inl (by omega))
    · by_cases c2 : x = a
      · rw [c2]; exact hs
      · have := dvd_step ha hx (by omega); omega
  · exact (h.2 x hx (by omega)).congr fun y y1 _ => hp.out (Or.inr (by omega))

theorem Half.done {sz n a : Nat} {e f : Nat → Lab} (h : Half sz n a e) (ha : 2 * sz ∣ a) (han : a ≤ n) (hna : n < a + 2 * sz) (hp : SP.PermOn a n e f) (hs : SP.Sorted ltN a n f) : Runs (2 * sz) n f := by
  intro x hx
  by_cases c : x < a
  · have := dvd_step hx ha c
    rw [Nat.min_eq_left (by omega)]
    exact (h.1 x hx c).congr fun y _ y2 => hp.out (Or.inl (by omega))
  · by_cases c2 : x = a
    · rw [c2, Nat.min_eq_right (by omega)]; exact hs
    · have := dvd_step ha hx (by omega)
      exact SP.Sorted.of_le_one _ (by omega)

set_option maxHeartbeats 1000000 in
theorem insertion_none {w : World} {blk n cap S a : Nat} {d : Nat → Lab} (hn : n ≤ 1048576) (h : St w blk n cap S d) (ha : a ≤ n) :
    Calls Try.prog 51 #[.agg #[lessV S, swapV blk n cap], .int .i64 (a : Int), .int .i64 (a : Int)] w fun e w' => e = .returned (.tuple #[]) ∧ ∃ d', St w' blk n cap S d' ∧ SP.PermOn a a d d' ∧ SP.Sorted ltN a a d' ∧ Oth blk w w' := by
  have HS : Hid (St (w.alloc (.cells #[lessV S, swapV blk n cap] 87)) blk n cap S d) := h.alloc _
  clear h
  go_enter Try.func51, Try.ntmps51
  go_wp2
  go_loopw [6] (fun i wr => i = .int .i64 ((a : Int) + 1) ∧ wr = (w.alloc (.cells #[lessV S, swapV blk n cap] 87))) (fun _ _ => 0)
  case atStart => exact ⟨by go_num, rfl⟩
  case round =>
    obtain ⟨rfl, rfl⟩ := hrel
    go_wp2
    go_end0
    exact ⟨rfl, d, HS.out, SP.PermOn.refl _ _ _, SP.Sorted.of_le_one _ (by omega), (Oth.refl _ _).alloc _⟩

theorem insertion_at {w : World} {blk n cap S : Nat} (a b : Nat) {d : Nat → Lab} (x y : Int) (hx : x = a) (hy : y = b) (hn : n ≤ 1048576) (h : St w blk n cap S d) (hD : SP.Dist ltN n d) (hab : a ≤ b) (hbn : b ≤ n) :
    Calls Try.prog 51 #[.agg #[lessV S, swapV blk n cap], .int .i64 x, .int .i64 y] w fun e w' => e = .returned (.tuple #[]) ∧ ∃ d', St w' blk n cap S d' ∧ SP.PermOn a b d d' ∧ SP.Sorted ltN a b d' ∧ Oth blk w w' := by
  subst hx hy
  by_cases e : a = b
  · subst e; exact insertion_none hn h hbn
  · exact insertion_any hn h hD (by omega) hbn

theorem symMerge_at {w : World} {blk n cap S : Nat} (a m b : Nat) {d : Nat → Lab} (x y z : Int) (hx : x = a) (hy : y = m) (hz : z = b) (hn : n ≤ 1048576) (ham : a < m) (hmb : m < b) (hbn : b ≤ n) (h : St w blk n cap S d) (hD : SP.Dist ltN n d) (hA : SP.Sorted ltN a m d) (hB : SP.Sorted ltN m b d) :
    Calls Try.prog 52 #[.agg #[lessV S, swapV blk n cap], .int .i64 x, .int .i64 y, .int .i64 z] w fun e w' => e = .returned (.tuple #[]) ∧ ∃ d', St w' blk n cap S d' ∧ SP.PermOn a b d d' ∧ SP.Sorted ltN a b d' ∧ Oth blk w w' :=
  symMerge_any hn _ a m b (Nat.le_refl _) ham hmb hbn w d x y z hx hy hz h hD hA hB

set_option maxRecDepth 10000 in
set_option maxHeartbeats 8000000 in
theorem stable_any {w : World} {blk n cap S : Nat} {d : Nat → Lab} (hn : n ≤ 1048576) (h : St w blk n cap S d) (hD : SP.Dist ltN n d) :
    Calls Try.prog 37 #[.agg #[lessV S, swapV blk n cap], .int .i64 (n : Int)] w fun e w' => e = .returned (.tuple #[]) ∧ ∃ d', St w' blk n cap S d' ∧ SP.PermOn 0 n d d' ∧ SP.Sorted ltN 0 n d' ∧ Oth blk w w' := by
  have HB : Hid (Bx (w.alloc (.cells #[lessV S, swapV blk n cap] 87)) w.heap.size blk n cap S) := Bx.start h.row.lt
  have HS : Hid (St (w.alloc (.cells #[lessV S, swapV blk n cap] 87)) blk n cap S d) := h.alloc _
  have HD : Hid (SP.Dist ltN n d) := hD
  clear h hD
  go_enter Try.func37, Try.ntmps37
  go_wp2
  go_loopw [5, 6] (fun x y wr => ∃ a : Nat, a ≤ n ∧ x = .int .i64 a ∧ y = .int .i64 ((a : Int) + 20) ∧ Hid (20 ∣ a) ∧ Hid (∃ e, St wr blk n cap S e ∧ Oth blk (w.alloc (.cells #[lessV S, swapV blk n cap] 87)) wr ∧ SP.PermOn 0 n d e ∧ ∀ x, 20 ∣ x → x < a → SP.Sorted ltN x (x + 20) e)) (fun x _ _ => n - (intOf x).toNat)
  case atStart => exact ⟨0, Nat.zero_le _, rfl, rfl, Nat.dvd_zero _, d, HS.out, Oth.refl _ _, SP.PermOn.refl _ _ _, fun x _ h => by omega⟩
  case round =>
    obtain ⟨a, han, rfl, rfl, HV, e, est, eoth, eperm, erun⟩ := hrel
    obtain ⟨c0, c1, _, _⟩ := HB.out.step eoth
    have HE : Hid (St wr blk n cap S e ∧ Oth blk (w.alloc (.cells #[lessV S, swapV blk n cap] 87)) wr ∧ SP.PermOn 0 n d e ∧ ∀ x, 20 ∣ x → x < a → SP.Sorted ltN x (x + 20) e) := ⟨est, eoth, eperm, erun⟩
    clear est eoth eperm erun
    by_cases hlt : (a : Int) + 20 ≤ n
    · go_wp2_with fail
      refine (insertion_at a (a + 20) _ _ rfl (by omega) hn HE.out.1 (HD.out.perm HE.out.2.2.1 (Nat.le_refl _)) (by omega) (by omega)).mono ?_
      rintro e' w' ⟨rfl, f, hs, hp, hso, ho⟩
      have HF : Hid (∃ e, St w' blk n cap S e ∧ Oth blk (w.alloc (.cells #[lessV S, swapV blk n cap] 87)) w' ∧ SP.PermOn 0 n d e ∧ ∀ x, 20 ∣ x → x < a + 20 → SP.Sorted ltN x (x + 20) e) := by
        refine ⟨f, hs, HE.out.2.1.trans ho, HE.out.2.2.1.trans (hp.mono (Nat.zero_le _) (by omega)), fun x hx hlt => ?_⟩
        by_cases c : x < a
        · have := dvd_step hx HV.out c
          exact (HE.out.2.2.2 x hx c).congr fun y _ y2 => hp.out (Or.inl (by omega))
        · by_cases c2 : x = a
          · rw [c2]; exact hso
          · have := dvd_step HV.out hx (by omega); omega
      clear hs hp hso ho
      go_wp2
      go_roundw
      case rel => exact ⟨a + 20, by omega, by go_num, by go_num, Nat.dvd_add HV.out (Nat.dvd_refl _), HF.out⟩
      case measure => simp [intOf]; omega
    · go_wp2_with fail
      refine (insertion_at a n _ _ rfl rfl hn HE.out.1 (HD.out.perm HE.out.2.2.1 (Nat.le_refl _)) han (Nat.le_refl _)).mono ?_
      rintro e' w' ⟨rfl, f, hs, hp, hso, ho⟩
      have HF : Hid (∃ e, St w' blk n cap S e ∧ Oth blk (w.alloc (.cells #[lessV S, swapV blk n cap] 87)) w' ∧ SP.PermOn 0 n d e ∧ Runs 20 n e) := by
        refine ⟨f, hs, HE.out.2.1.trans ho, HE.out.2.2.1.trans (hp.mono (Nat.zero_le _) (by omega)), fun x hx => ?_⟩
        by_cases c : x < a
        · have := dvd_step hx HV.out c
          rw [Nat.min_eq_left (by omega)]
          exact (HE.out.2.2.2 x hx c).congr fun y _ y2 => hp.out (Or.inl (by omega))
        · by_cases c2 : x = a
          · rw [c2, Nat.min_eq_right (by omega)]; exact hso
          · have := dvd_step HV.out hx (by omega)
            exact SP.Sorted.of_le_one _ (by omega)
      clear hs hp hso ho HE c0 c1
      go_wp2_with fail
      go_loopw [4] (fun x wr => ∃ sz : Nat, 20 ≤ sz ∧ sz ≤ 2 * n + 20 ∧ x = .int .i64 sz ∧ Hid (∃ e, St wr blk n cap S e ∧ Oth blk (w.alloc (.cells #[lessV S, swapV blk n cap] 87)) wr ∧ SP.PermOn 0 n d e ∧ Runs sz n e)) (fun x _ => 2 * n + 20 - (intOf x).toNat)
      case atStart => exact ⟨20, Nat.le_refl _, by omega, rfl, HF.out⟩
      case round =>
        clear HF HV han hlt
        obtain ⟨sz, hz1, hz2, rfl, e, est, eoth, eperm, erun⟩ := hrel
        have HE : Hid (St wr blk n cap S e ∧ Oth blk (w.alloc (.cells #[lessV S, swapV blk n cap] 87)) wr ∧ SP.PermOn 0 n d e ∧ Runs sz n e) := ⟨est, eoth, eperm, erun⟩
        clear est eoth eperm erun
        by_cases hsz : sz < n
        · go_wp2_with fail
          go_loopw [5, 6] (fun x y wx => ∃ a : Nat, a ≤ n ∧ x = .int .i64 a ∧ y = .int .i64 ((a : Int) + 2 * sz) ∧ Hid (2 * sz ∣ a) ∧ Hid (∃ e, St wx blk n cap S e ∧ Oth blk (w.alloc (.cells #[lessV S, swapV blk n cap] 87)) wx ∧ SP.PermOn 0 n d e ∧ Half sz n a e)) (fun x _ _ => n - (intOf x).toNat)
          case atStart => exact ⟨0, Nat.zero_le _, rfl, by go_num, Nat.dvd_zero _, e, HE.out.1, HE.out.2.1, HE.out.2.2.1, Half.start HE.out.2.2.2⟩
          case round =>
            clear HE
            obtain ⟨p, hpn, rfl, rfl, HV, f, fst, foth, fperm, fhalf⟩ := hrel
            obtain ⟨c0, c1, _, _⟩ := HB.out.step foth
            have HE : Hid (St wr blk n cap S f ∧ Oth blk (w.alloc (.cells #[lessV S, swapV blk n cap] 87)) wr ∧ SP.PermOn 0 n d f ∧ Half sz n p f) := ⟨fst, foth, fperm, fhalf⟩
            clear fst foth fperm fhalf
            by_cases hlt : (p : Int) + 2 * sz ≤ n
            · have hpp := HE.out.2.2.2.parts HV.out (b := p + 2 * sz) (by omega) (Nat.le_refl _) (by omega)
              have HPP : Hid (_ ∧ _) := hpp
              clear hpp
              go_wp2_with fail
              refine (symMerge_at p (p + sz) (p + 2 * sz) ((p : Int)) ((p : Int) + sz) ((p : Int) + 2 * sz) rfl (by omega) (by omega) hn (by omega) (by omega) (by omega) HE.out.1 (HD.out.perm HE.out.2.2.1 (Nat.le_refl _)) HPP.out.1 HPP.out.2).mono ?_
              rintro e' w' ⟨rfl, g, hs, hp, hso, ho⟩
              have HF : Hid (∃ e, St w' blk n cap S e ∧ Oth blk (w.alloc (.cells #[lessV S, swapV blk n cap] 87)) w' ∧ SP.PermOn 0 n d e ∧ Half sz n (p + 2 * sz) e) :=
                ⟨g, hs, HE.out.2.1.trans ho, HE.out.2.2.1.trans (hp.mono (Nat.zero_le _) (by omega)), HE.out.2.2.2.step HV.out hp hso⟩
              clear hs hp hso ho
              go_wp2
              go_roundw
              case rel => exact ⟨p + 2 * sz, by omega, by go_num, by go_num, Nat.dvd_add HV.out (Nat.dvd_refl _), HF.out⟩
              case measure => simp [intOf]; omega
            · by_cases hlt2 : (p : Int) + sz < n
              · have hpp := HE.out.2.2.2.parts HV.out (b := n) (by omega) (by omega) (Nat.le_refl _)
                have HPP : Hid (_ ∧ _) := hpp
                clear hpp
                go_wp2_with fail
                refine (symMerge_at p (p + sz) n ((p : Int)) ((p : Int) + sz) (n : Int) rfl (by omega) rfl hn (by omega) (by omega) (by omega) HE.out.1 (HD.out.perm HE.out.2.2.1 (Nat.le_refl _)) HPP.out.1 HPP.out.2).mono ?_
                rintro e' w' ⟨rfl, g, hs, hp, hso, ho⟩
                have HF : Hid (∃ e, St w' blk n cap S e ∧ Oth blk (w.alloc (.cells #[lessV S, swapV blk n cap] 87)) w' ∧ SP.PermOn 0 n d e ∧ Runs (2 * sz) n e) :=
                  ⟨g, hs, HE.out.2.1.trans ho, HE.out.2.2.1.trans (hp.mono (Nat.zero_le _) (by omega)), HE.out.2.2.2.done HV.out hpn (by omega) hp hso⟩
                clear hs hp hso ho
                go_wp2
                go_roundw
                case rel => exact ⟨2 * sz, by omega, by omega, by go_num, HF.out⟩
                case measure => simp [intOf]; omega
              · have HF : Hid (∃ e, St wr blk n cap S e ∧ Oth blk (w.alloc (.cells #[lessV S, swapV blk n cap] 87)) wr ∧ SP.PermOn 0 n d e ∧ Runs (2 * sz) n e) := by
                  refine ⟨f, HE.out.1, HE.out.2.1, HE.out.2.2.1, HE.out.2.2.2.done HV.out hpn (by omega) (SP.PermOn.refl _ _ _) ?_⟩
                  have := HE.out.2.2.2.2 p (Nat.dvd_trans (Nat.dvd_mul_left sz 2) HV.out) (Nat.le_refl _)
                  rwa [Nat.min_eq_right (by omega)] at this
                go_wp2
                go_roundw
                case rel => exact ⟨2 * sz, by omega, by omega, by go_num, HF.out⟩
                case measure => simp [intOf]; omega
        · have HF : Hid (SP.Sorted ltN 0 n e) := by
            have := HE.out.2.2.2 0 (Nat.dvd_zero _)
            rwa [Nat.min_eq_right (by omega)] at this
          go_wp2
          go_end0
          exact ⟨rfl, e, HE.out.1, HE.out.2.2.1, HF.out, ((Oth.refl _ _).alloc _).trans HE.out.2.1⟩
end Go.Proofs.Qxb6615577a
