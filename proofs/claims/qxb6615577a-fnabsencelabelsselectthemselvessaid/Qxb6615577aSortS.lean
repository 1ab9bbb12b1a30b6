/- symMerge_func (52): the long way, and the whole. -/
import Derived.Test.Qxb6615577aSortZ
import Derived.Deep.Cut
namespace Go.Proofs.Qxb6615577a
open Go.RowKit

/-- symMerge's contract. -/
def SymC (blk n cap S a m b : Nat) : Prop := ∀ (w : World) (d : Nat → Lab) (x y z : Int), x = a → y = m → z = b → St w blk n cap S d → SP.Dist ltN n d → SP.Sorted ltN a m d → SP.Sorted ltN m b d →
    Calls Try.prog 52 #[.agg #[lessV S, swapV blk n cap], .int .i64 x, .int .i64 y, .int .i64 z] w fun e w' => e = .returned (.tuple #[]) ∧ ∃ d', St w' blk n cap S d' ∧ SP.PermOn a b d d' ∧ SP.Sorted ltN a b d' ∧ Oth blk w w'

theorem rotate_at {w : World} {blk n cap S : Nat} (a m b : Nat) {d : Nat → Lab} (x y z : Int) (hx : x = a) (hy : y = m) (hz : z = b) (hn : n ≤ 1048576) (h : St w blk n cap S d) (ham : a < m) (hmb : m < b) (hbn : b ≤ n) :
    Calls Try.prog 53 #[.agg #[lessV S, swapV blk n cap], .int .i64 x, .int .i64 y, .int .i64 z] w fun e w' => e = .returned (.tuple #[]) ∧ St w' blk n cap S (SP.rot a m b d) ∧ SP.PermOn a b d (SP.rot a m b d) ∧ Oth blk w w' := by
  subst hx hy hz; exact rotate_any hn h ham hmb hbn

set_option maxRecDepth 40000 in
set_option maxHeartbeats 8000000 in
theorem sym3 {w : World} {blk n cap S a m b : Nat} {d : Nat → Lab} (hn : n ≤ 1048576) (h : St w blk n cap S d) (hD : SP.Dist ltN n d) (ham : a + 1 < m) (hmb : m + 1 < b) (hbn : b ≤ n) (hA : SP.Sorted ltN a m d) (hB : SP.Sorted ltN m b d)
    (IH : Hid (∀ a' m' b', a' < m' → m' < b' → b' ≤ n → b' - a' < b - a → SymC blk n cap S a' m' b')) :
    Calls Try.prog 52 #[.agg #[lessV S, swapV blk n cap], .int .i64 (a : Int), .int .i64 (m : Int), .int .i64 (b : Int)] w fun e w' => e = .returned (.tuple #[]) ∧ ∃ d', St w' blk n cap S d' ∧ SP.PermOn a b d d' ∧ SP.Sorted ltN a b d' ∧ Oth blk w w' := by
  have HB : Hid (Bx (w.alloc (.cells #[lessV S, swapV blk n cap] 87)) w.heap.size blk n cap S) := Bx.start h.row.lt
  have HS : Hid (St (w.alloc (.cells #[lessV S, swapV blk n cap] 87)) blk n cap S d) := h.alloc _
  have HD : Hid (SP.Dist ltN n d ∧ SP.Sorted ltN a m d ∧ SP.Sorted ltN m b d) := ⟨hD, hA, hB⟩
  clear h hD hA hB
  have E1 : Hid (lessV S = .func (.func 31) #[] #[.pointer (some ⟨S, 0, none⟩)] ∧ swapV blk n cap = .func (.func 50) #[] #[.slice (some ⟨blk, 0, none⟩) n cap, .pointer (some ⟨0, 31, none⟩)]) := ⟨rfl, rfl⟩
  have g0 : ((m : Int) - a == 1) = false := by simp; omega
  have g1 : ((b : Int) - m == 1) = false := by simp; omega
  obtain ⟨mid, hmid⟩ : ∃ mid, Hid (mid = (a + b) / 2) := ⟨_, rfl⟩
  go_enter Try.func52, Try.ntmps52
  go_upto_if 106 with fail
  go_cut [18, 19] from 23 (fun x y wc => ∃ s0 r0 : Nat, Hid (SP.Idx a m b mid s0 r0) ∧ x = .int .i64 s0 ∧ y = .int .i64 r0 ∧ wc = (w.alloc (.cells #[lessV S, swapV blk n cap] 87)))
  case first =>
    by_cases hg : ((a : Int) + b) / 2 < m
    · have hm := hmid.out
      have HI : Hid (SP.Idx a m b mid (mid + m - b) mid) := ⟨by omega, by omega, hm, Or.inl ⟨by omega, rfl, rfl⟩⟩
      have x1 : ((a : Int) + b) / 2 + m - b = ((mid + m - b : Nat) : Int) := by omega
      have x2 : ((a : Int) + b) / 2 = (mid : Int) := by omega
      have X : Hid (((a : Int) + b) / 2 + m - b = ((mid + m - b : Nat) : Int) ∧ ((a : Int) + b) / 2 = (mid : Int)) := ⟨x1, x2⟩
      clear hm x1 x2
      go_wp2_with fail
      go_meet
      exact ⟨_, _, HI, congrArg _ X.out.1, congrArg _ X.out.2, rfl⟩
    · have hm := hmid.out
      have HI : Hid (SP.Idx a m b mid a m) := ⟨by omega, by omega, hm, Or.inr ⟨by omega, rfl, rfl⟩⟩
      clear hm
      go_wp2_with fail
      go_meet
      exact ⟨_, _, HI, rfl, rfl, rfl⟩
  case rest =>
    obtain ⟨s0, r0, HI, rfl, rfl, rfl⟩ := hcut
    have hb0 : s0 ≤ r0 ∧ r0 ≤ m := by
      obtain ⟨_, _, hm, hi | hi⟩ := HI.out <;> omega
    obtain ⟨hb1, hb2⟩ := hb0
    have hmid2 : Hid (((a : Int) + b) / 2 = mid ∧ mid < b) := by have := hmid.out; exact ⟨by omega, by omega⟩
    go_wp2_with fail
    go_loopw [18, 19] (fun x y wr => ∃ s r : Nat, s0 ≤ s ∧ s ≤ r ∧ r ≤ r0 ∧ x = .int .i64 s ∧ y = .int .i64 r ∧ Hid (Sm (w.alloc (.cells #[lessV S, swapV blk n cap] 87)) wr blk n cap S d ∧ (∀ x, s0 ≤ x → x < s → ltN (d x) (d (mid + m - 1 - x)) = true) ∧ ∀ x, r ≤ x → x < r0 → ltN (d (mid + m - 1 - x)) (d x) = true)) (fun x y _ => (intOf y).toNat - (intOf x).toNat)
    case atStart => exact ⟨s0, r0, Nat.le_refl _, by omega, Nat.le_refl _, rfl, rfl, ⟨HS.out, Oth.refl _ _⟩, fun h h1 h2 => by omega, fun h h1 h2 => by omega⟩
    case round =>
      obtain ⟨s, r, hs0, hsr, hr, rfl, rfl, HR⟩ := hrel
      obtain ⟨c0, c1, _, _⟩ := HB.out.step HR.out.1.2
      by_cases hlt : s < r
      · rw [E1.out.1] at c0
        have hat := HI.out.at (c := (s + r) / 2) (by omega) (by omega)
        have H1 : Hid (m ≤ mid + m - 1 - (s + r) / 2 ∧ mid + m - 1 - (s + r) / 2 < b) := ⟨hat.2.2.1, hat.2.2.2⟩
        have H2 : Hid ((((a : Int) + b) / 2 + m - 1 - ((s : Int) + r) / 2) = ((mid + m - 1 - (s + r) / 2 : Nat) : Int)) := by have := hmid2.out.1; have := hat.2.2.1; have := hat.2.1; show _ = _; omega
        clear hat
        have hpos : (0 : Int) ≤ ((a : Int) + b) / 2 + m - 1 - ((s : Int) + r) / 2 ∧ ((a : Int) + b) / 2 + m - 1 - ((s : Int) + r) / 2 < 1048576 := by have := H2.out; have := H1.out.2; exact ⟨by omega, by omega⟩
        obtain ⟨hp1, hp2⟩ := hpos
        go_wp2_with fail
        refine (less_at HR.out.1.1 (mid + m - 1 - (s + r) / 2) ((s + r) / 2) _ _ H2.out (by omega) (by have := H1.out.2; omega) (by omega)).mono ?_
        rintro e' w' ⟨rfl, q, rfl⟩
        cases hl : ltN (d (mid + m - 1 - (s + r) / 2)) (d ((s + r) / 2))
        · have HG : Hid (Sm (w.alloc (.cells #[lessV S, swapV blk n cap] 87)) (wr.drewN q) blk n cap S d ∧ (∀ x, s0 ≤ x → x < (s + r) / 2 + 1 → ltN (d x) (d (mid + m - 1 - x)) = true) ∧ ∀ x, r ≤ x → x < r0 → ltN (d (mid + m - 1 - x)) (d x) = true) :=
            ⟨⟨HR.out.1.1.drewN q, HR.out.1.2.drewN q⟩, SP.search_lo ordN HI.out HD.out.2.1 HD.out.2.2 HD.out.1 hbn (by omega) (by omega) hl, HR.out.2.2⟩
          go_wp2
          go_roundw
          case rel => exact ⟨(s + r) / 2 + 1, r, by omega, by omega, hr, by go_num, rfl, HG.out⟩
          case measure => simp [intOf]; omega
        · have HG : Hid (Sm (w.alloc (.cells #[lessV S, swapV blk n cap] 87)) (wr.drewN q) blk n cap S d ∧ (∀ x, s0 ≤ x → x < s → ltN (d x) (d (mid + m - 1 - x)) = true) ∧ ∀ x, (s + r) / 2 ≤ x → x < r0 → ltN (d (mid + m - 1 - x)) (d x) = true) :=
            ⟨⟨HR.out.1.1.drewN q, HR.out.1.2.drewN q⟩, HR.out.2.1, SP.search_hi ordN HI.out HD.out.2.1 HD.out.2.2 (by omega) (by omega) hl⟩
          go_wp2
          go_roundw
          case rel => exact ⟨s, (s + r) / 2, hs0, by omega, by omega, rfl, by go_num, HG.out⟩
          case measure => simp [intOf]; omega
      · obtain rfl : s = r := by omega
        obtain ⟨i1, i2, i3, i4, i5, i6, k1, k2, k3, k4, kx⟩ := SP.rotated ordN HI.out HD.out.2.1 HD.out.2.2 hs0 hr HR.out.2.1 HR.out.2.2
        obtain ⟨f, hf⟩ : ∃ f, SP.rot s m (mid + m - s) d = f := ⟨_, rfl⟩
        rw [hf] at k1 k2 k3 k4 kx
        have hend : ((a : Int) + b) / 2 + m - s = ((mid + m - s : Nat) : Int) := by have := hmid2.out.1; omega
        have hm1 := hmid2.out.1
        have hmb1 := hmid.out
        have KX : Hid ((a ≤ s ∧ s ≤ m ∧ s ≤ mid ∧ mid ≤ mid + m - s ∧ m ≤ mid + m - s ∧ mid + m - s ≤ b) ∧ SP.Sorted ltN a s f ∧ SP.Sorted ltN s mid f ∧ SP.Sorted ltN mid (mid + m - s) f ∧ SP.Sorted ltN (mid + m - s) b f ∧ (∀ x y, a ≤ x → x < mid → mid ≤ y → y < b → ltN (f x) (f y) = true) ∧ SP.rot s m (mid + m - s) d = f ∧ ((a : Int) + b) / 2 + m - s = ((mid + m - s : Nat) : Int) ∧ ((a : Int) + b) / 2 = mid ∧ mid = (a + b) / 2) := ⟨⟨i1, i2, i3, i4, i5, i6⟩, k1, k2, k3, k4, kx, hf, hend, hm1, hmb1⟩
        clear k1 k2 k3 k4 kx hf hend hm1 hmb1 i1 i2 i3 i4 i5 i6
        go_upto_region 40 with fail
        go_cut [145] from 135 (fun c wc => c = .bool (decide ((s : Int) < m ∧ (m : Int) < ((a : Int) + b) / 2 + m - s)) ∧ wr = wc)
        case first =>
          by_cases p1 : (s : Int) < m
          · by_cases p2 : (m : Int) < ((a : Int) + b) / 2 + m - s
            · go_wp2_with fail
              go_meet
              exact ⟨congrArg Value.bool (decide_eq_true (p := (s : Int) < m ∧ (m : Int) < ((a : Int) + b) / 2 + m - s) ⟨p1, p2⟩).symm, rfl⟩
            · go_wp2_with fail
              go_meet
              exact ⟨congrArg Value.bool (decide_eq_false (p := (s : Int) < m ∧ (m : Int) < ((a : Int) + b) / 2 + m - s) (by omega)).symm, rfl⟩
          · go_wp2_with fail
            go_meet
            exact ⟨congrArg Value.bool (decide_eq_false (p := (s : Int) < m ∧ (m : Int) < ((a : Int) + b) / 2 + m - s) (by omega)).symm, rfl⟩
        case rest =>
          obtain ⟨rfl, rfl⟩ := hcut
          go_upto_if 145 with fail
          go_cut [145] from 135 (fun _ wc => Hid (St wc blk n cap S f ∧ SP.PermOn a b d f ∧ Oth blk (w.alloc (.cells #[lessV S, swapV blk n cap] 87)) wc))
          case first =>
            by_cases p : (s : Int) < m ∧ (m : Int) < ((a : Int) + b) / 2 + m - s
            · obtain ⟨p1, p2⟩ := p
              have HC : Hid (Calls Try.prog 53 #[.agg #[lessV S, swapV blk n cap], .int .i64 (s : Int), .int .i64 (m : Int), .int .i64 (((a : Int) + b) / 2 + m - s)] wr fun e w' => e = .returned (.tuple #[]) ∧ St w' blk n cap S f ∧ SP.PermOn s (mid + m - s) d f ∧ Oth blk wr w') := by
                obtain ⟨⟨j1, j2, j3, j4, j5, j6⟩, _, _, _, _, _, hf, hend, _⟩ := KX.out
                have hc := rotate_at s m (mid + m - s) (s : Int) (m : Int) (((a : Int) + b) / 2 + m - s) rfl rfl hend hn HR.out.1.1 (by omega) (by omega) (by omega)
                rw [hf] at hc
                exact hc
              have J : Hid (a ≤ s ∧ mid + m - s ≤ b) := ⟨KX.out.1.1, KX.out.1.2.2.2.2.2⟩
              go_wp2_with fail
              refine HC.out.mono ?_
              rintro e' w' ⟨rfl, hs, hp, ho⟩
              have HF : Hid (St w' blk n cap S f ∧ SP.PermOn a b d f ∧ Oth blk (w.alloc (.cells #[lessV S, swapV blk n cap] 87)) w') := ⟨hs, hp.mono J.out.1 J.out.2, HR.out.1.2.trans ho⟩
              clear hs hp ho
              go_wp2_with fail
              go_meet
              exact HF
            · have HF : Hid (St wr blk n cap S f ∧ SP.PermOn a b d f ∧ Oth blk (w.alloc (.cells #[lessV S, swapV blk n cap] 87)) wr) := by
                obtain ⟨⟨j1, j2, j3, j4, j5, j6⟩, _, _, _, _, _, hf, hend, hm1, _⟩ := KX.out
                have e : d = f := by rw [← hf, SP.rot_none d (by omega)]
                exact ⟨e ▸ HR.out.1.1, e ▸ SP.PermOn.refl _ _ _, HR.out.1.2⟩
              go_wp2_with fail
              go_meet
              exact HF
          case rest =>
            have HA := hcut
            clear hcut c0 c1
            obtain ⟨c0, c1, _, _⟩ := HB.out.step HA.out.2.2
            go_upto_region 42 with fail
            go_cut [158] from 135 (fun c wx => c = .bool (decide ((a : Int) < s ∧ (s : Int) < ((a : Int) + b) / 2)) ∧ wc = wx)
            case first =>
              by_cases p1 : (a : Int) < s
              · by_cases p2 : (s : Int) < ((a : Int) + b) / 2
                · go_wp2_with fail
                  go_meet
                  exact ⟨congrArg Value.bool (decide_eq_true (p := (a : Int) < s ∧ (s : Int) < ((a : Int) + b) / 2) ⟨p1, p2⟩).symm, rfl⟩
                · go_wp2_with fail
                  go_meet
                  exact ⟨congrArg Value.bool (decide_eq_false (p := (a : Int) < s ∧ (s : Int) < ((a : Int) + b) / 2) (by omega)).symm, rfl⟩
              · go_wp2_with fail
                go_meet
                exact ⟨congrArg Value.bool (decide_eq_false (p := (a : Int) < s ∧ (s : Int) < ((a : Int) + b) / 2) (by omega)).symm, rfl⟩
            case rest =>
              obtain ⟨rfl, rfl⟩ := hcut
              go_upto_if 158 with fail
              go_cut [158] from 135 (fun _ wx => Hid (∃ g, St wx blk n cap S g ∧ SP.PermOn a mid f g ∧ SP.Sorted ltN a mid g ∧ Oth blk (w.alloc (.cells #[lessV S, swapV blk n cap] 87)) wx))
              case first =>
                by_cases p : (a : Int) < s ∧ (s : Int) < ((a : Int) + b) / 2
                · obtain ⟨p1, p2⟩ := p
                  have HC : Hid (Calls Try.prog 52 #[.agg #[lessV S, swapV blk n cap], .int .i64 (a : Int), .int .i64 (s : Int), .int .i64 (((a : Int) + b) / 2)] wc fun e w' => e = .returned (.tuple #[]) ∧ ∃ d', St w' blk n cap S d' ∧ SP.PermOn a mid f d' ∧ SP.Sorted ltN a mid d' ∧ Oth blk wc w') := by
                    obtain ⟨⟨j1, j2, j3, j4, j5, j6⟩, k1, k2, _, _, _, _, hend, hm1, hm2⟩ := KX.out
                    exact IH.out a s mid (by omega) (by omega) (by omega) (by omega) _ _ _ _ _ rfl rfl hm1 HA.out.1 (HD.out.1.perm HA.out.2.1 hbn) k1 k2
                  go_wp2_with fail
                  refine HC.out.mono ?_
                  rintro e' w' ⟨rfl, g, hs, hp, hst, ho⟩
                  have HF : Hid (∃ g, St w' blk n cap S g ∧ SP.PermOn a mid f g ∧ SP.Sorted ltN a mid g ∧ Oth blk (w.alloc (.cells #[lessV S, swapV blk n cap] 87)) w') := ⟨g, hs, hp, hst, HA.out.2.2.trans ho⟩
                  clear hs hp ho hst
                  go_wp2_with fail
                  go_meet
                  exact HF
                · have HF : Hid (∃ g, St wc blk n cap S g ∧ SP.PermOn a mid f g ∧ SP.Sorted ltN a mid g ∧ Oth blk (w.alloc (.cells #[lessV S, swapV blk n cap] 87)) wc) := by
                    obtain ⟨⟨j1, j2, j3, j4, j5, j6⟩, k1, k2, _, _, _, _, hend, hm1, hm2⟩ := KX.out
                    refine ⟨f, HA.out.1, SP.PermOn.refl _ _ _, ?_, HA.out.2.2⟩
                    by_cases e : s = a
                    · exact e ▸ k2
                    · have e2 : s = mid := by omega
                      exact e2 ▸ k1
                  go_wp2_with fail
                  go_meet
                  exact HF
              case rest =>
                obtain ⟨g, gs, gp, gsort, goth⟩ := hcut
                have HG : Hid (St wc blk n cap S g ∧ SP.PermOn a mid f g ∧ SP.Sorted ltN a mid g ∧ Oth blk (w.alloc (.cells #[lessV S, swapV blk n cap] 87)) wc ∧ SP.PermOn a b d g) := ⟨gs, gp, gsort, goth, HA.out.2.1.trans (gp.mono (Nat.le_refl _) (Nat.le_of_lt hmid2.out.2))⟩
                clear gs gp gsort goth c0 c1 HA
                obtain ⟨c0, c1, _, _⟩ := HB.out.step HG.out.2.2.2.1
                go_upto_region 44 with fail
                go_cut [171] from 135 (fun c wx => c = .bool (decide (((a : Int) + b) / 2 < ((a : Int) + b) / 2 + m - s ∧ ((a : Int) + b) / 2 + m - s < b)) ∧ wc = wx)
                case first =>
                  by_cases p1 : ((a : Int) + b) / 2 < ((a : Int) + b) / 2 + m - s
                  · by_cases p2 : ((a : Int) + b) / 2 + m - s < b
                    · go_wp2_with fail
                      go_meet
                      exact ⟨congrArg Value.bool (decide_eq_true (p := ((a : Int) + b) / 2 < ((a : Int) + b) / 2 + m - s ∧ ((a : Int) + b) / 2 + m - s < b) ⟨p1, p2⟩).symm, rfl⟩
                    · go_wp2_with fail
                      go_meet
                      exact ⟨congrArg Value.bool (decide_eq_false (p := ((a : Int) + b) / 2 < ((a : Int) + b) / 2 + m - s ∧ ((a : Int) + b) / 2 + m - s < b) (by omega)).symm, rfl⟩
                  · go_wp2_with fail
                    go_meet
                    exact ⟨congrArg Value.bool (decide_eq_false (p := ((a : Int) + b) / 2 < ((a : Int) + b) / 2 + m - s ∧ ((a : Int) + b) / 2 + m - s < b) (by omega)).symm, rfl⟩
                case rest =>
                  obtain ⟨rfl, rfl⟩ := hcut
                  by_cases p : ((a : Int) + b) / 2 < ((a : Int) + b) / 2 + m - s ∧ ((a : Int) + b) / 2 + m - s < b
                  · obtain ⟨p1, p2⟩ := p
                    have HC : Hid (Calls Try.prog 52 #[.agg #[lessV S, swapV blk n cap], .int .i64 (((a : Int) + b) / 2), .int .i64 (((a : Int) + b) / 2 + m - s), .int .i64 (b : Int)] wc fun e w' => e = .returned (.tuple #[]) ∧ ∃ d', St w' blk n cap S d' ∧ SP.PermOn mid b g d' ∧ SP.Sorted ltN mid b d' ∧ Oth blk wc w') := by
                      obtain ⟨⟨j1, j2, j3, j4, j5, j6⟩, _, _, k3, k4, _, _, hend, hm1, hm2⟩ := KX.out
                      refine IH.out mid (mid + m - s) b (by omega) (by omega) (by omega) (by omega) _ _ _ _ _ hm1 hend rfl HG.out.1 (HD.out.1.perm HG.out.2.2.2.2 hbn) ?_ ?_
                      · exact k3.congr fun x x1 _ => HG.out.2.1.out (Or.inr x1)
                      · exact k4.congr fun x x1 _ => HG.out.2.1.out (Or.inr (by omega))
                    go_wp2_with fail
                    refine HC.out.mono ?_
                    rintro e' w' ⟨rfl, f3, hst3, hp3, hs3, ho3⟩
                    have HF : Hid (∃ d', St w' blk n cap S d' ∧ SP.PermOn a b d d' ∧ SP.Sorted ltN a b d' ∧ Oth blk w w') := by
                      obtain ⟨⟨j1, j2, j3, j4, j5, j6⟩, _, _, _, _, kx, _⟩ := KX.out
                      exact ⟨f3, hst3, HG.out.2.2.2.2.trans (hp3.mono (by omega) (Nat.le_refl _)), SP.halves kx HG.out.2.1 HG.out.2.2.1 hp3 hs3, ((Oth.refl _ _).alloc _).trans (HG.out.2.2.2.1.trans ho3)⟩
                    clear hst3 hp3 hs3 ho3
                    go_wp2
                    go_end0
                    exact ⟨rfl, HF.out⟩
                  · have HF : Hid (∃ d', St wc blk n cap S d' ∧ SP.PermOn a b d d' ∧ SP.Sorted ltN a b d' ∧ Oth blk w wc) := by
                      obtain ⟨⟨j1, j2, j3, j4, j5, j6⟩, _, _, k3, k4, kx, _, hend, hm1, hm2⟩ := KX.out
                      refine ⟨g, HG.out.1, HG.out.2.2.2.2, SP.halves kx HG.out.2.1 HG.out.2.2.1 (SP.PermOn.refl _ _ _) ?_, ((Oth.refl _ _).alloc _).trans HG.out.2.2.2.1⟩
                      have hsf : SP.Sorted ltN mid b f := by
                        by_cases e : mid + m - s = mid
                        · exact e ▸ k4
                        · have e2 : mid + m - s = b := by omega
                          exact e2 ▸ k3
                      exact hsf.congr fun x x1 _ => HG.out.2.1.out (Or.inr x1)
                    go_wp2_with fail
                    go_end0
                    exact ⟨rfl, HF.out⟩

/-- SYMMERGE: two sorted neighbours become one sorted run. -/
theorem symMerge_any {blk n cap S : Nat} (hn : n ≤ 1048576) : ∀ k a m b, b - a ≤ k → a < m → m < b → b ≤ n → SymC blk n cap S a m b
  | 0, a, m, b, hk, ham, hmb, _ => by omega
  | k + 1, a, m, b, hk, ham, hmb, hbn => by
    intro w d x y z hx hy hz h hD hA hB
    subst hx hy hz
    by_cases e1 : m = a + 1
    · exact sym1 hn h hD e1 hmb hbn hB
    · by_cases e2 : b = m + 1
      · exact sym2 hn h hD e2 (by omega) hbn hA
      · exact sym3 hn h hD (by omega) (by omega) hbn hA hB fun a' m' b' h1 h2 h3 h4 => symMerge_any hn k a' m' b' (by omega) h1 h2 h3
end Go.Proofs.Qxb6615577a
