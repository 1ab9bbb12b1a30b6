/- FnSameSliceWindowsOfOneArray (3): the walk inside the range. -/
import Derived.Test.Qxb6615577aF3
namespace Go.Proofs.Qxb6615577a
open Go.RowKit

theorem ret_bool {a b : Bool} (h : a = b) : Ending.returned (.bool a) = .returned (.bool b) := by rw [h]

set_option maxHeartbeats 1000000 in
theorem f3_zero (a : Addr) (len cap i j : Nat) (w : World) (hl : len ≤ 4096) (h : LabIn w (some a) len) (hi : i ≤ len) (hj : j ≤ len) :
    Calls Try.prog 3 #[.slice (some a) len cap, .int .i64 i, .int .i64 j, .int .i64 0] w fun e w' => e = .returned (.bool true) ∧ Below w.heap.size w w' := by
  have hm : len ≤ maxLen := by unfold maxLen; omega
  have c7 : Hid (∀ wx, LabIn wx (some a) len → Calls Try.prog 7 #[.slice (some a) len cap, .int .i64 i, .int .i64 j, .int .i64 0] wx fun e w' => RetBool e ∧ ∃ k, w' = wx.drewN k) := fun wx hx => (bytes7 (some a) len cap i j 0 wx hm hx).mono fun e w' h => ⟨h.1, 0, h.2⟩
  have c8 : Hid (∀ wx, LabIn wx (some a) len → Calls Try.prog 8 #[.slice (some a) len cap] wx fun e w' => RetBool e ∧ ∃ k, w' = wx.drewN k) := fun wx hx => lbytes (some a) len cap wx hm hx
  have c9 : Hid (∀ wx, LabIn wx (some a) len → Calls Try.prog 9 #[.slice (some a) len cap] wx fun e w' => e = .returned (.slice (some ⟨wx.heap.size, 0, none⟩) len len) ∧ RowStr w' wx.heap.size (len * 2) ∧ Below wx.heap.size wx w') := fun wx hx => copyOf a len cap wx hl hx
  have H : Hid (LabIn w (some a) len) := h
  clear hm h
  have t0 : decide ((4096 : Int) < len) = false := by simp; omega
  have t1 : decide ((i : Int) < 0) = false := decide_eq_false (by omega)
  have t2 : decide ((j : Int) < 0) = false := decide_eq_false (by omega)
  have t3 : decide (len < i) = false := by simp; omega
  have t4 : decide (len < j) = false := by simp; omega
  have t5 : decide ((len : Int) - i < 0) = false := by simp; omega
  have t6 : decide ((len : Int) - j < 0) = false := by simp; omega
  go_enter Try.func3, Try.ntmps3
  go_wp2_with fail
  refine (c7.out w H.out).mono ?_
  rintro e w' ⟨⟨r, rfl⟩, m0, rfl⟩
  cases r
  · go_wp2
    go_ret
    exact ⟨rfl, below_drewN (Below.refl _ _) _⟩
  go_wp2_with fail
  refine (c8.out _ (LabIn.drewN H.out _)).mono ?_
  rintro e w' ⟨⟨r, rfl⟩, m, rfl⟩
  cases r
  · go_wp2
    go_ret
    exact ⟨rfl, below_drewN (Below.refl _ _) _⟩
  go_wp2_with fail
  refine (c9.out _ (LabIn.drewN H.out _)).mono ?_
  rintro e w1 ⟨rfl, hr1, hb1⟩
  have H1 : Hid (LabIn w1 (some a) len) := LabIn.below (LabIn.drewN H.out _) hb1
  have B1 : Hid (Below w.heap.size w w1) := (below_drewN (Below.refl _ _) _).trans hb1
  clear hb1
  go_wp2_with fail
  refine (c9.out _ H1.out).mono ?_
  rintro e w2 ⟨rfl, hr2, hb2⟩
  have B2 : Hid (Below w.heap.size w w2) := B1.out.trans (hb2.mono (B1.out.size))
  clear hb2 hr1 hr2
  go_wp2_with fail
  all_goals
    refine (zz_zero _ _ _ _ _).mono ?_
    rintro e w' ⟨rfl, m2, rfl⟩
    go_wp2_with fail
    refine (zz_zero _ _ _ _ _).mono ?_
    rintro e w' ⟨rfl, m3, rfl⟩
    go_wp2_with fail
    refine (zz_zero _ _ _ _ _).mono ?_
    rintro e w' ⟨rfl, m4, rfl⟩
    go_wp2_with fail
  iterate 2
    · refine (zz_zero _ _ _ _ _).mono ?_
      rintro e w' ⟨rfl, m5, rfl⟩
      go_wp2
      go_ret
      exact ⟨rfl, below_drewN B2.out _⟩
  all_goals
    refine (zz_ne _ _ _ _ _ _ _ (by omega)).mono ?_
    rintro e w' ⟨rfl, m5, rfl⟩
    go_wp2
    go_ret
    exact ⟨ret_bool (by simp; omega), below_drewN B2.out _⟩

set_option maxHeartbeats 1000000 in
theorem f3_pos (a : Addr) (len cap i j n : Nat) (w : World) (hl : len ≤ 4096) (h : LabIn w (some a) len) (hn : 0 < n) (hi : i + n ≤ len) (hj : j + n ≤ len) :
    Calls Try.prog 3 #[.slice (some a) len cap, .int .i64 i, .int .i64 j, .int .i64 n] w fun e w' => e = .returned (.bool true) ∧ Below w.heap.size w w' := by
  have hm : len ≤ maxLen := by unfold maxLen; omega
  have c7 : Hid (∀ wx, LabIn wx (some a) len → Calls Try.prog 7 #[.slice (some a) len cap, .int .i64 i, .int .i64 j, .int .i64 n] wx fun e w' => RetBool e ∧ ∃ k, w' = wx.drewN k) := fun wx hx => (bytes7 (some a) len cap i j n wx hm hx).mono fun e w' h => ⟨h.1, 0, h.2⟩
  have c8 : Hid (∀ wx, LabIn wx (some a) len → Calls Try.prog 8 #[.slice (some a) len cap] wx fun e w' => RetBool e ∧ ∃ k, w' = wx.drewN k) := fun wx hx => lbytes (some a) len cap wx hm hx
  have c9 : Hid (∀ wx, LabIn wx (some a) len → Calls Try.prog 9 #[.slice (some a) len cap] wx fun e w' => e = .returned (.slice (some ⟨wx.heap.size, 0, none⟩) len len) ∧ RowStr w' wx.heap.size (len * 2) ∧ Below wx.heap.size wx w') := fun wx hx => copyOf a len cap wx hl hx
  have H : Hid (LabIn w (some a) len) := h
  clear hm h
  have t0 : decide ((4096 : Int) < len) = false := by simp; omega
  have t1 : decide ((i : Int) < 0) = false := decide_eq_false (by omega)
  have t2 : decide ((j : Int) < 0) = false := decide_eq_false (by omega)
  have t2' : decide ((n : Int) < 0) = false := decide_eq_false (by omega)
  have t3 : decide (len < i) = false := by simp; omega
  have t4 : decide (len < j) = false := by simp; omega
  have t5 : decide ((len : Int) - i < n) = false := by simp; omega
  have t6 : decide ((len : Int) - j < n) = false := by simp; omega
  have t7 : ((n : Int) == 0) = false := by simp; omega
  have u1 : ¬ len = i := by omega
  have u2 : ¬ len = j := by omega
  by_cases hij : i = j
  subst hij
  rotate_left
  have t8 : ((i : Int) == (j : Int)) = false := by simp; omega
  rotate_left
  all_goals
    go_enter Try.func3, Try.ntmps3
    go_wp2_with fail
    refine (c7.out w H.out).mono ?_
    rintro e w' ⟨⟨r, rfl⟩, m0, rfl⟩
    cases r
    · go_wp2
      go_ret
      exact ⟨rfl, below_drewN (Below.refl _ _) _⟩
    go_wp2_with fail
    refine (c8.out _ (LabIn.drewN H.out _)).mono ?_
    rintro e w' ⟨⟨r, rfl⟩, m, rfl⟩
    cases r
    · go_wp2
      go_ret
      exact ⟨rfl, below_drewN (Below.refl _ _) _⟩
    go_wp2_with fail
    refine (c9.out _ (LabIn.drewN H.out _)).mono ?_
    rintro e w1 ⟨rfl, hr1, hb1⟩
    have H1 : Hid (LabIn w1 (some a) len) := LabIn.below (LabIn.drewN H.out _) hb1
    have B1 : Hid (Below w.heap.size w w1) := (below_drewN (Below.refl _ _) _).trans hb1
    clear hb1
    go_wp2_with fail
    refine (c9.out _ H1.out).mono ?_
    rintro e w2 ⟨rfl, hr2, hb2⟩
    have B2 : Hid (Below w.heap.size w w2) := B1.out.trans (hb2.mono (B1.out.size))
    have R1 : Hid (RowStr w2 w.heap.size (len * 2)) := by show RowStr w2 w.heap.size (len * 2); simpa using hr1.of_block (hb2.block _ hr1.lt)
    have R2 : Hid (RowStr w2 w1.heap.size (len * 2)) := hr2
    have hlt : w.heap.size < w1.heap.size := by simpa using hr1.lt
    clear hb2 hr1 hr2
    go_wp2_with fail
  · refine (zz_eq _ _ _ _ _ _ (by omega)).mono ?_
    rintro e w' ⟨rfl, m2, rfl⟩
    go_wp2_with fail
    refine (zz_eq _ _ _ _ _ _ (by omega)).mono ?_
    rintro e w' ⟨rfl, m3, rfl⟩
    go_wp2_with fail
    refine (zz_other _ _ _ _ _ _ _ _ _ _ (by omega) (by omega) (R1.out.drewN _) (R2.out.drewN _)).mono ?_
    rintro e w' ⟨rfl, m4, rfl⟩
    by_cases hin : len - i = n
    · have e2 : ((n : Int) == (len : Int) - i) = true := by simp; omega
      go_wp2_with fail
      refine (zz_eq _ _ _ _ _ _ (by omega)).mono ?_
      rintro e w' ⟨rfl, m5, rfl⟩
      go_wp2
      go_ret
      exact ⟨rfl, below_drewN B2.out _⟩
    · have e2 : ((n : Int) == (len : Int) - i) = false := by simp; omega
      go_wp2_with fail
      refine (zz_ne _ _ _ _ _ _ _ (by omega)).mono ?_
      rintro e w' ⟨rfl, m5, rfl⟩
      go_wp2
      go_ret
      exact ⟨rfl, below_drewN B2.out _⟩
  · refine (zz_other _ _ _ _ _ _ _ _ _ _ (by omega) (by omega) R1.out R1.out).mono ?_
    rintro e w' ⟨rfl, m2, rfl⟩
    go_wp2_with fail
    refine (zz_other _ _ _ _ _ _ _ _ _ _ (by omega) (by omega) (R1.out.drewN _) (R1.out.drewN _)).mono ?_
    rintro e w' ⟨rfl, m3, rfl⟩
    go_wp2_with fail
    refine (zz_other _ _ _ _ _ _ _ _ _ _ (by omega) (by omega) (R1.out.drewN _) (R2.out.drewN _)).mono ?_
    rintro e w' ⟨rfl, m4, rfl⟩
    by_cases hin : len - i = n
    · have e2 : ((n : Int) == (len : Int) - i) = true := by simp; omega
      go_wp2_with fail
      refine (zz_eq _ _ _ _ _ _ (by omega)).mono ?_
      rintro e w' ⟨rfl, m5, rfl⟩
      go_wp2
      go_ret
      exact ⟨rfl, below_drewN B2.out _⟩
    · have e2 : ((n : Int) == (len : Int) - i) = false := by simp; omega
      go_wp2_with fail
      refine (zz_ne _ _ _ _ _ _ _ (by omega)).mono ?_
      rintro e w' ⟨rfl, m5, rfl⟩
      go_wp2
      go_ret
      exact ⟨rfl, below_drewN B2.out _⟩

set_option maxRecDepth 100000 in
set_option maxHeartbeats 1000000 in
theorem f3_nil (w : World) :
    Calls Try.prog 3 #[.slice none 0 0, .int .i64 0, .int .i64 0, .int .i64 0] w fun e w' => e = .returned (.bool true) ∧ Below w.heap.size w w' := by
  have c7 : Hid (∀ wx, Calls Try.prog 7 #[.slice none 0 0, .int .i64 0, .int .i64 0, .int .i64 0] wx fun e w' => RetBool e ∧ ∃ k, w' = wx.drewN k) := fun wx => (bytes7_zero none 0 0 0 0 wx).mono fun e w' h => ⟨h.1, 0, h.2⟩
  have c8 : Hid (∀ wx, Calls Try.prog 8 #[.slice none 0 0] wx fun e w' => RetBool e ∧ ∃ k, w' = wx.drewN k) := fun wx => lbytes_zero none 0 wx
  have c9 : Hid (∀ wx, Calls Try.prog 9 #[.slice none 0 0] wx fun e w' => e = .returned (.slice none 0 0) ∧ ∃ k, w' = wx.drewN k) := fun wx => (copy_nil wx).mono fun e w' h => ⟨h.1, 0, h.2⟩
  go_enter Try.func3, Try.ntmps3
  go_wp2_with fail
  refine (c7.out w).mono ?_
  rintro e w' ⟨⟨r, rfl⟩, m0, rfl⟩
  cases r
  · go_wp2
    go_ret
    exact ⟨rfl, below_drewN (Below.refl _ _) _⟩
  go_wp2_with fail
  refine (c8.out _).mono ?_
  rintro e w' ⟨⟨r, rfl⟩, m, rfl⟩
  cases r
  · go_wp2
    go_ret
    exact ⟨rfl, below_drewN (Below.refl _ _) _⟩
  go_wp2_with fail
  refine (c9.out _).mono ?_
  rintro e w1 ⟨rfl, m1, rfl⟩
  go_wp2_with fail
  refine (c9.out _).mono ?_
  rintro e w2 ⟨rfl, m2, rfl⟩
  go_wp2_with fail
  refine (zz_zero _ _ _ _ _).mono ?_
  rintro e w' ⟨rfl, m3, rfl⟩
  go_wp2_with fail
  refine (zz_zero _ _ _ _ _).mono ?_
  rintro e w' ⟨rfl, m4, rfl⟩
  go_wp2_with fail
  refine (zz_zero _ _ _ _ _).mono ?_
  rintro e w' ⟨rfl, m5, rfl⟩
  go_wp2_with fail
  refine (zz_zero _ _ _ _ _).mono ?_
  rintro e w' ⟨rfl, m6, rfl⟩
  go_wp2
  go_ret
  exact ⟨rfl, below_drewN (Below.refl _ _) _⟩

set_option maxHeartbeats 1000000 in
theorem f3_long (ao : Option Addr) (len cap : Nat) (i j n : Int) (w : World) (hm : len ≤ maxLen) (hl : 4096 < len) (h : LabIn w ao len) :
    Calls Try.prog 3 #[.slice ao len cap, .int .i64 i, .int .i64 j, .int .i64 n] w fun e w' => e = .returned (.bool true) ∧ Below w.heap.size w w' := by
  have c7 : Hid (Calls Try.prog 7 #[.slice ao len cap, .int .i64 i, .int .i64 j, .int .i64 n] w fun e w' => RetBool e ∧ ∃ k, w' = w.drewN k) := (bytes7 ao len cap i j n w hm h).mono fun e w' h => ⟨h.1, 0, h.2⟩
  clear h hm
  go_enter Try.func3, Try.ntmps3
  go_wp2_with fail
  refine c7.out.mono ?_
  rintro e w' ⟨⟨r, rfl⟩, m0, rfl⟩
  cases r
  all_goals
    go_wp2
    go_ret
    exact ⟨rfl, below_drewN (Below.refl _ _) _⟩

/-- THE WALK, WHATEVER THE INPUT. -/
theorem f3_any (ao : Option Addr) (len cap : Nat) (i j n : Int) (w : World) (hm : len ≤ maxLen) (h : LabIn w ao len) (hnil : ao = none → len = 0 ∧ cap = 0) :
    Calls Try.prog 3 #[.slice ao len cap, .int .i64 i, .int .i64 j, .int .i64 n] w fun e w' => e = .returned (.bool true) ∧ Below w.heap.size w w' := by
  by_cases hl : 4096 < len
  · exact f3_long ao len cap i j n w hm hl h
  by_cases hin : 0 ≤ i ∧ 0 ≤ j ∧ 0 ≤ n ∧ i + n ≤ len ∧ j + n ≤ len
  · obtain ⟨h1, h2, h3, h4, h5⟩ := hin
    obtain ⟨i, rfl⟩ := Int.eq_ofNat_of_zero_le h1
    obtain ⟨j, rfl⟩ := Int.eq_ofNat_of_zero_le h2
    obtain ⟨n, rfl⟩ := Int.eq_ofNat_of_zero_le h3
    cases ao with
    | none =>
      obtain ⟨rfl, rfl⟩ := hnil rfl
      obtain rfl : i = 0 := by omega
      obtain rfl : j = 0 := by omega
      obtain rfl : n = 0 := by omega
      exact f3_nil w
    | some a =>
      by_cases hn : n = 0
      · subst hn
        exact f3_zero a len cap i j w (by omega) h (by omega) (by omega)
      · exact f3_pos a len cap i j n w (by omega) h (by omega) (by omega) (by omega)
  · exact f3_out ao len cap i j n w (by omega) h (by omega)
end Go.Proofs.Qxb6615577a
