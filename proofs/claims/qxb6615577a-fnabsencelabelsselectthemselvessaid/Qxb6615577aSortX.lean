/- swapRange_func (54), rotate_func (53): the contracts. -/
import Derived.Test.Qxb6615577aSortW
namespace Go.Proofs.Qxb6615577a
open Go.RowKit

/-- The row, and the box of 'set' that less reads. -/
structure St (w : World) (blk n cap S : Nat) (d : Nat → Lab) : Prop where
  row : Row w blk n d
  set : w.cell? ⟨S, 0, none⟩ = some (.slice (some ⟨blk, 0, none⟩) n cap)
  slt : S < w.heap.size
  sne : S ≠ blk

/-- sort's 'data': less and swap. -/
def lessV (S : Nat) : Value := .func (.func 31) #[] #[.pointer (some ⟨S, 0, none⟩)]
def swapV (blk n cap : Nat) : Value := .func (.func 50) #[] #[.slice (some ⟨blk, 0, none⟩) n cap, .pointer (some ⟨0, 31, none⟩)]
theorem Try.handle31 : typeHandle Try.prog 31 = .pointer (some ⟨0, 31, none⟩) := by kernel_rfl

theorem St.step {w w' : World} {blk n cap S : Nat} {d d' : Nat → Lab} (h : St w blk n cap S d) (ho : Oth blk w w') (hr : Row w' blk n d') : St w' blk n cap S d' :=
  ⟨hr, (ho.cell h.slt h.sne).trans h.set, Nat.lt_of_lt_of_le h.slt ho.size, h.sne⟩
theorem St.alloc {w : World} {blk n cap S : Nat} {d : Nat → Lab} (h : St w blk n cap S d) (o : Obj) : St (w.alloc o) blk n cap S d := h.step ((Oth.refl _ _).alloc o) (h.row.alloc o)
theorem St.drewN {w : World} {blk n cap S : Nat} {d : Nat → Lab} (h : St w blk n cap S d) (k : Nat) : St (w.drewN k) blk n cap S d := h.step ((Oth.refl _ _).drewN k) (h.row.drewN k)
theorem St.swap {w : World} {blk n cap S i j : Nat} {d : Nat → Lab} (h : St w blk n cap S d) (hi : i < n) (hj : j < n) : St (swW w blk i j d) blk n cap S (SP.swp i j d) := h.step (swW_oth _ _ _ _ _) (swW_row h.row hi hj)

theorem swap_at {w : World} {blk n cap i j : Nat} {d : Nat → Lab} (h : Row w blk n d) (x y : Int) (hx : x = i) (hy : y = j) (hi : i < n) (hj : j < n) :
    (callFunc 50 #[.int .i64 x, .int .i64 y, .slice (some ⟨blk, 0, none⟩) n cap, .pointer (some ⟨0, 31, none⟩)]).run Try.prog w = .ok (.value (.tuple #[])) (swW w blk i j d) := by
  subst hx hy; rw [← Try.handle31]; exact swap_run h hi hj

/-- The box of data, in a later world. -/
structure Bx (w : World) (B blk n cap S : Nat) : Prop where
  c0 : w.cell? ⟨B, 0, none⟩ = some (lessV S)
  c1 : w.cell? ⟨B, 1, none⟩ = some (swapV blk n cap)
  lt : B < w.heap.size
  ne : B ≠ blk
theorem Bx.step {w w' : World} {B blk n cap S : Nat} (h : Bx w B blk n cap S) (ho : Oth blk w w') : Bx w' B blk n cap S :=
  ⟨(ho.cell h.lt h.ne).trans h.c0, (ho.cell h.lt h.ne).trans h.c1, Nat.lt_of_lt_of_le h.lt ho.size, h.ne⟩
theorem Bx.start {w : World} {blk n cap S : Nat} (hb : blk < w.heap.size) : Bx (w.alloc (.cells #[lessV S, swapV blk n cap] 87)) w.heap.size blk n cap S :=
  ⟨by simp, by simp, by simp, by omega⟩

set_option maxHeartbeats 1000000 in
theorem swapRange_any {w : World} {blk n cap S a b m : Nat} {d : Nat → Lab} (hn : n ≤ 1048576) (h : St w blk n cap S d) (hab : a + m ≤ b) (hbn : b + m ≤ n) :
    Calls Try.prog 54 #[.agg #[lessV S, swapV blk n cap], .int .i64 (a : Int), .int .i64 (b : Int), .int .i64 (m : Int)] w fun e w' => e = .returned (.tuple #[]) ∧ St w' blk n cap S (SP.sr a b m d) ∧ Oth blk w w' := by
  have H := h
  have HB : Hid (Bx (w.alloc (.cells #[lessV S, swapV blk n cap] 87)) w.heap.size blk n cap S) := Bx.start h.row.lt
  have HS : Hid (St (w.alloc (.cells #[lessV S, swapV blk n cap] 87)) blk n cap S d) := h.alloc _
  clear h H
  have e1 : lessV S = .func (.func 31) #[] #[.pointer (some ⟨S, 0, none⟩)] := rfl
  have e2 : swapV blk n cap = .func (.func 50) #[] #[.slice (some ⟨blk, 0, none⟩) n cap, .pointer (some ⟨0, 31, none⟩)] := rfl
  go_enter Try.func54, Try.ntmps54
  go_wp2
  go_loopw [8] (fun i wr => ∃ k : Nat, k ≤ m ∧ i = .int .i64 k ∧ Hid (St wr blk n cap S (SP.sr a b k d) ∧ Oth blk (w.alloc (.cells #[lessV S, swapV blk n cap] 87)) wr)) (fun i _ => m - (intOf i).toNat)
  case atStart => exact ⟨0, Nat.zero_le _, rfl, by rw [SP.sr_start]; exact ⟨HS.out, Oth.refl _ _⟩⟩
  case round =>
    obtain ⟨k, hk, rfl, HR⟩ := hrel
    obtain ⟨c0, c1, _, _⟩ := HB.out.step HR.out.2
    by_cases hlt : k < m
    · have hs := swap_at (cap := cap) HR.out.1.row ((a : Int) + k) ((b : Int) + k) (i := a + k) (j := b + k) (by omega) (by omega) (by omega) (by omega)
      go_wp2
      go_roundw
      case rel => exact ⟨k + 1, by omega, by go_num, by rw [← SP.sr_step (n := m) d hlt hab]; exact ⟨HR.out.1.swap (by omega) (by omega), HR.out.2.trans (swW_oth _ _ _ _ _)⟩⟩
      case measure => simp [intOf]; omega
    · obtain rfl : k = m := by omega
      go_wp2
      go_end0
      exact ⟨rfl, HR.out.1, ((Oth.refl _ _).alloc _).trans HR.out.2⟩

/-- swapRange keeps the places of [lo, hi). -/
theorem sr_perm {lo hi a b : Nat} (d : Nat → Lab) : ∀ m, lo ≤ a → a + m ≤ b → b + m ≤ hi → SP.PermOn lo hi d (SP.sr a b m d)
  | 0, _, _, _ => by rw [SP.sr_start]; exact SP.PermOn.refl _ _ _
  | m + 1, h1, h2, h3 => by
    rw [← SP.sr_step (n := m + 1) d (by omega) h2]
    exact (sr_perm d m h1 (by omega) (by omega)).trans (SP.PermOn.swap _ (by omega) (by omega) (by omega) (by omega))

theorem swapRange_at {w : World} {blk n cap S : Nat} (a b m : Nat) {d : Nat → Lab} (x y z : Int) (hx : x = a) (hy : y = b) (hz : z = m) (hn : n ≤ 1048576) (h : St w blk n cap S d) (hab : a + m ≤ b) (hbn : b + m ≤ n) :
    Calls Try.prog 54 #[.agg #[lessV S, swapV blk n cap], .int .i64 x, .int .i64 y, .int .i64 z] w fun e w' => e = .returned (.tuple #[]) ∧ St w' blk n cap S (SP.sr a b m d) ∧ Oth blk w w' := by
  subst hx hy hz; exact swapRange_any hn h hab hbn

set_option maxHeartbeats 2000000 in
theorem rotate_any {w : World} {blk n cap S a m b : Nat} {d : Nat → Lab} (hn : n ≤ 1048576) (h : St w blk n cap S d) (ham : a < m) (hmb : m < b) (hbn : b ≤ n) :
    Calls Try.prog 53 #[.agg #[lessV S, swapV blk n cap], .int .i64 (a : Int), .int .i64 (m : Int), .int .i64 (b : Int)] w fun e w' => e = .returned (.tuple #[]) ∧ St w' blk n cap S (SP.rot a m b d) ∧ SP.PermOn a b d (SP.rot a m b d) ∧ Oth blk w w' := by
  have HB : Hid (Bx (w.alloc (.cells #[lessV S, swapV blk n cap] 87)) w.heap.size blk n cap S) := Bx.start h.row.lt
  have HS : Hid (St (w.alloc (.cells #[lessV S, swapV blk n cap] 87)) blk n cap S d) := h.alloc _
  clear h
  have e1 : lessV S = .func (.func 31) #[] #[.pointer (some ⟨S, 0, none⟩)] := rfl
  have e2 : swapV blk n cap = .func (.func 50) #[] #[.slice (some ⟨blk, 0, none⟩) n cap, .pointer (some ⟨0, 31, none⟩)] := rfl
  have E1 : Hid (lessV S = .func (.func 31) #[] #[.pointer (some ⟨S, 0, none⟩)] ∧ swapV blk n cap = .func (.func 50) #[] #[.slice (some ⟨blk, 0, none⟩) n cap, .pointer (some ⟨0, 31, none⟩)]) := ⟨e1, e2⟩
  clear e1 e2
  go_enter Try.func53, Try.ntmps53
  go_wp2
  go_loopw [8, 9] (fun x y wr => ∃ i j : Nat, 0 < i ∧ 0 < j ∧ i + a ≤ m ∧ j + m ≤ b ∧ x = .int .i64 i ∧ y = .int .i64 j ∧ Hid (∃ e, St wr blk n cap S e ∧ Oth blk (w.alloc (.cells #[lessV S, swapV blk n cap] 87)) wr ∧ SP.rot (m - i) m (m + j) e = SP.rot a m b d ∧ SP.PermOn a b d e)) (fun x y _ => (intOf x).toNat + (intOf y).toNat)
  case atStart => exact ⟨m - a, b - m, by omega, by omega, by omega, by omega, by go_num, by go_num, d, HS.out, Oth.refl _ _, by rw [show m - (m - a) = a by omega, show m + (b - m) = b by omega], SP.PermOn.refl _ _ _⟩
  case round =>
    obtain ⟨i, j, hi, hj, him, hjb, rfl, rfl, e, hst, hoth, hrot, hperm⟩ := hrel
    obtain ⟨c0, c1, hlt, _⟩ := HB.out.step hoth
    have HE : Hid (St wr blk n cap S e ∧ Oth blk (w.alloc (.cells #[lessV S, swapV blk n cap] 87)) wr ∧ SP.rot (m - i) m (m + j) e = SP.rot a m b d ∧ SP.PermOn a b d e) := ⟨hst, hoth, hrot, hperm⟩
    clear hst hoth hrot hperm
    by_cases hij : i = j
    · subst hij
      go_wp2_with fail
      refine (swapRange_at (m - i) m i _ _ _ (by omega) rfl rfl hn HE.out.1 (by omega) (by omega)).mono ?_
      rintro e' w' ⟨rfl, hs, ho⟩
      have HF : Hid (St w' blk n cap S (SP.rot a m b d) ∧ SP.PermOn a b d (SP.rot a m b d) ∧ Oth blk w w') := by
        have er := HE.out.2.2.1
        rw [SP.rot_eq e (by omega)] at er
        refine ⟨er ▸ hs, ?_, ((Oth.refl _ _).alloc _).trans (HE.out.2.1.trans ho)⟩
        rw [← er]
        exact HE.out.2.2.2.trans (sr_perm e i (by omega) (by omega) (by omega))
      clear hs ho
      go_wp2
      go_end0
      exact ⟨rfl, HF.out⟩
    · have q1 : ((i : Int) == (j : Int)) = false := by simp; omega
      by_cases hg : (j : Int) < i
      · go_wp2_with fail
        refine (swapRange_at (m - i) m j _ _ _ (by omega) rfl rfl hn HE.out.1 (by omega) (by omega)).mono ?_
        rintro e' w' ⟨rfl, hs, ho⟩
        have HF : Hid (∃ f, St w' blk n cap S f ∧ Oth blk (w.alloc (.cells #[lessV S, swapV blk n cap] 87)) w' ∧ SP.rot (m - (i - j)) m (m + j) f = SP.rot a m b d ∧ SP.PermOn a b d f) := by
          refine ⟨_, hs, HE.out.2.1.trans ho, ?_, HE.out.2.2.2.trans (sr_perm e j (by omega) (by omega) (by omega))⟩
          rw [← SP.rot_gt e (by omega) (by omega)]; exact HE.out.2.2.1
        clear hs ho
        go_wp2
        go_roundw
        case rel => exact ⟨i - j, j, by omega, hj, by omega, hjb, by go_num, rfl, HF.out⟩
        case measure => simp [intOf]; omega
      · go_wp2_with fail
        refine (swapRange_at (m - i) (m + j - i) i _ _ _ (by omega) (by omega) rfl hn HE.out.1 (by omega) (by omega)).mono ?_
        rintro e' w' ⟨rfl, hs, ho⟩
        have HF : Hid (∃ f, St w' blk n cap S f ∧ Oth blk (w.alloc (.cells #[lessV S, swapV blk n cap] 87)) w' ∧ SP.rot (m - i) m (m + (j - i)) f = SP.rot a m b d ∧ SP.PermOn a b d f) := by
          refine ⟨_, hs, HE.out.2.1.trans ho, ?_, HE.out.2.2.2.trans (sr_perm e i (by omega) (by omega) (by omega))⟩
          rw [← SP.rot_lt e (by omega) (by omega)]; exact HE.out.2.2.1
        clear hs ho
        go_wp2
        go_roundw
        case rel => exact ⟨i, j - i, hi, by omega, him, by omega, rfl, by go_num, HF.out⟩
        case measure => simp [intOf]; omega
end Go.Proofs.Qxb6615577a
