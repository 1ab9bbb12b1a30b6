/- FnSameSliceWindowsOfOneArray (3): the walk. -/
import Derived.Test.Qxb6615577aCopy
namespace Go.Proofs.Qxb6615577a
open Go.RowKit

/-- What the walk asks of the two windows' calls, in whatever later world. -/
theorem zz_zero (ao bo : Option Addr) (c d : Nat) (w : World) : Calls Try.prog 10 #[.slice ao 0 c, .slice bo 0 d] w fun e w' => e = .returned (.bool true) ∧ ∃ k, w' = w.drewN k := zz10 _ _ _ _ (same_zero ao bo c d w)
theorem zz_ne (ao bo : Option Addr) (n m c d : Nat) (w : World) (h : n ≠ m) : Calls Try.prog 10 #[.slice ao n c, .slice bo m d] w fun e w' => e = .returned (.bool false) ∧ ∃ k, w' = w.drewN k := zz10 _ _ _ _ (same_ne ao bo n m c d w (by simp; omega))
theorem zz_eq (b o n c d : Nat) (w : World) (h : 0 < n) : Calls Try.prog 10 #[.slice (some ⟨b, o, none⟩) n c, .slice (some ⟨b, o, none⟩) n d] w fun e w' => e = .returned (.bool true) ∧ ∃ k, w' = w.drewN k := zz10 _ _ _ _ (same_eq b o n c d w (by omega))
theorem zz_other (b1 o1 b2 o2 n c d m1 m2 : Nat) (w : World) (h : 0 < n) (hne : b1 ≠ b2 ∨ o1 ≠ o2) (h1 : RowStr w b1 m1) (h2 : RowStr w b2 m2) :
    Calls Try.prog 10 #[.slice (some ⟨b1, o1, none⟩) n c, .slice (some ⟨b2, o2, none⟩) n d] w fun e w' => e = .returned (.bool false) ∧ ∃ k, w' = w.drewN k := by
  obtain ⟨ca, ha, _⟩ := h1
  obtain ⟨cb, hb, _⟩ := h2
  exact zz10 _ _ _ _ (same_other b1 o1 b2 o2 n c d w (by omega) hne ca cb 31 31 ha hb)

theorem RowStr.drewN {w : World} {b n : Nat} (h : RowStr w b n) (k : Nat) : RowStr (w.drewN k) b n := h.of_block (by simp)

set_option maxHeartbeats 1000000 in
theorem f3_out (ao : Option Addr) (len cap : Nat) (i j n : Int) (w : World) (hl : len ≤ 4096) (h : LabIn w ao len)
    (hbad : i < 0 ∨ 0 ≤ i ∧ (j < 0 ∨ 0 ≤ j ∧ (n < 0 ∨ 0 ≤ n ∧ (len < i ∨ i ≤ len ∧ (len < j ∨ j ≤ len ∧ (len - i < n ∨ n ≤ len - i ∧ len - j < n)))))) :
    Calls Try.prog 3 #[.slice ao len cap, .int .i64 i, .int .i64 j, .int .i64 n] w fun e w' => e = .returned (.bool true) ∧ Below w.heap.size w w' := by
  have hm : len ≤ maxLen := by unfold maxLen; omega
  have HM := Hid.out (p := len ≤ maxLen) hm
  have c7 : Hid (∀ wx, LabIn wx ao len → Calls Try.prog 7 #[.slice ao len cap, .int .i64 i, .int .i64 j, .int .i64 n] wx fun e w' => RetBool e ∧ w' = wx) := fun wx hx => bytes7 ao len cap i j n wx hm hx
  have c8 : Hid (∀ wx, LabIn wx ao len → Calls Try.prog 8 #[.slice ao len cap] wx fun e w' => RetBool e ∧ ∃ k, w' = wx.drewN k) := fun wx hx => lbytes ao len cap wx hm hx
  have H : Hid (LabIn w ao len) := h
  clear hm HM h
  rcases hbad with g | ⟨g1, g | ⟨g2, g | ⟨g3, g | ⟨g4, g | ⟨g5, g | ⟨g6, g⟩⟩⟩⟩⟩⟩
  all_goals
    go_enter Try.func3, Try.ntmps3
    go_wp2_with fail
    refine (c7.out w H.out).mono ?_
    rintro e w' ⟨⟨r, rfl⟩, rfl⟩
    cases r
    · go_wp2
      go_ret
      exact ⟨rfl, Below.refl _ _⟩
    go_wp2_with fail
    refine (c8.out _ H.out).mono ?_
    rintro e w' ⟨⟨r, rfl⟩, m, rfl⟩
    cases r
    · go_wp2
      go_ret
      exact ⟨rfl, below_drewN (Below.refl _ _) _⟩
    go_wp2
    go_ret
    exact ⟨rfl, below_drewN (Below.refl _ _) _⟩
end Go.Proofs.Qxb6615577a
