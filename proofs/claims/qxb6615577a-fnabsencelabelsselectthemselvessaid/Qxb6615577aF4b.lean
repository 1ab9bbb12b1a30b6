/- FnSameSliceNeverAcrossArrays (4): the empty window; nil; the whole. -/
import Derived.Test.Qxb6615577aF4
namespace Go.Proofs.Qxb6615577a
open Go.RowKit

theorem two_one : ∀ u ∈ [Value.string ⟨#[120]⟩, Value.string ⟨#[121]⟩], u.oneCell' = true := by
  intro u hu; simp at hu; rcases hu with rfl | rfl <;> rfl
theorem one_le : 0 + 1 ≤ maxLen := by unfold maxLen; omega
theorem no_olds (w : World) {ao : Option Addr} : ∀ b, ao = some b → ∀ (j : Nat) (u : Value), ([] : List Value)[j]? = some u → w.cell? (b.add j) = some u := by
  intro b _ j u hu; simp at hu

set_option maxHeartbeats 2000000 in
theorem f4_zero (a : Addr) (len cap i : Nat) (w : World) (hl : len ≤ 4096) (h : LabIn w (some a) len) (hi : i ≤ len) :
    Calls Try.prog 4 #[.slice (some a) len cap, .int .i64 i, .int .i64 0] w fun e w' => e = .returned (.bool true) ∧ Below w.heap.size w w' := by
  have hm : len ≤ maxLen := by unfold maxLen; omega
  have c7 : Hid (∀ wx, LabIn wx (some a) len → Calls Try.prog 11 #[.slice (some a) len cap, .int .i64 i, .int .i64 0] wx fun e w' => RetBool e ∧ ∃ k, w' = wx.drewN k) := fun wx hx => (bytes11 (some a) len cap i 0 wx hm hx).mono fun e w' h => ⟨h.1, 0, h.2⟩
  have c8 : Hid (∀ wx, LabIn wx (some a) len → Calls Try.prog 8 #[.slice (some a) len cap] wx fun e w' => RetBool e ∧ ∃ k, w' = wx.drewN k) := fun wx hx => lbytes (some a) len cap wx hm hx
  have c9 : Hid (∀ wx, LabIn wx (some a) len → Calls Try.prog 9 #[.slice (some a) len cap] wx fun e w' => e = .returned (.slice (some ⟨wx.heap.size, 0, none⟩) len len) ∧ RowStr w' wx.heap.size (len * 2) ∧ Below wx.heap.size wx w') := fun wx hx => copyOf a len cap wx hl hx
  have H : Hid (LabIn w (some a) len) := h
  clear hm h
  obtain ⟨i0, hi0, hz0, hz1, hz2⟩ := info_parts Try.info31
  have t0 : decide ((4096 : Int) < len) = false := by simp; omega
  have t1 : decide ((i : Int) < 0) = false := decide_eq_false (by omega)
  have t3 : decide (len < i) = false := by simp; omega
  have t5 : decide ((len : Int) - i < 0) = false := by simp; omega
  by_cases u1 : len = i
  subst u1
  all_goals
    go_enter Try.func4, Try.ntmps4
    go_wp2_with fail
    refine (c7.out w H.out).mono ?_
    rintro e w' ⟨⟨r, rfl⟩, m0, rfl⟩
    cases r
    · go_wp2
      go_ret
      exact ⟨rfl, below_drewN (Below.refl _ _) _⟩
    go_wp2_with fail
    refine (c8.out _ (LabIn.drewN H.out _)).mono ?_
    rintro e w' ⟨⟨r, rfl⟩, m, rfl⟩
    cases r
    · go_wp2
      go_ret
      exact ⟨rfl, below_drewN (Below.refl _ _) _⟩
    go_wp2_with fail
    refine (c9.out _ (LabIn.drewN H.out _)).mono ?_
    rintro e w1 ⟨rfl, hr1, hb1⟩
    have H1 : Hid (LabIn w1 (some a) len) := LabIn.below (LabIn.drewN H.out _) hb1
    have B1 : Hid (Below w.heap.size w w1) := (below_drewN (Below.refl _ _) _).trans hb1
    clear hb1
    go_wp2_with fail
    refine (c9.out _ H1.out).mono ?_
    rintro e w2 ⟨rfl, hr2, hb2⟩
    have B2 : Hid (Below w.heap.size w w2) := B1.out.trans (hb2.mono (B1.out.size))
    have hlt : w.heap.size < w1.heap.size := by simpa using hr1.lt
    clear hb2 hr1 hr2
    go_wp2_with fail
    refine (yy_zero _ _ _ _ _).mono ?_
    rintro e w' ⟨rfl, m2, rfl⟩
    go_wp2_with fail
    refine (yy_zero _ _ _ _ _).mono ?_
    rintro e w' ⟨rfl, m3, rfl⟩
    go_wp2_with (at_builtin; refine wpList_append_grows _ rfl _ _ 26 rfl 31 i0 _ 2 32 Try.underlying26 hi0 hz0 hz1 hz2 rfl (by decide) _ _ _ [] rfl (by intro h; cases h) rfl (no_olds _) ⟨w2.heap.size, 0, none⟩ 1 1 [.string ⟨#[120]⟩, .string ⟨#[121]⟩] rfl rfl (cell_two_new (w2.drewN (m2 + m3)) _ _ 31) two_one (by omega) one_le (by omega) ?_)
    intro v' w3 hown hgrow
    obtain ⟨g, cp, hv, hg, hcp, hB⟩ := owned_row hown (by omega)
    have hsz : w.heap.size ≤ w2.heap.size := B2.out.size
    have B3 : Hid (Below w.heap.size w w3) := ((below_drewN B2.out (m2 + m3)).alloc (by simpa using hsz) _).grown hgrow (by simp; omega) (by simp)
    rw [hv]
    clear hown hgrow hv hB
    have s1 : (1 : Int) ≤ (cp : Int) := by omega
    have s5 : ¬ cp = 0 := by omega
    go_wp2_with fail
    refine (yy_zero _ _ _ _ _).mono ?_
    rintro e w4 ⟨rfl, m4, hw4⟩
    have B4 : Hid (Below w.heap.size w w4) := by rw [hw4]; exact below_drewN B3.out _
    clear hw4
    go_wp2_with fail
    go_quiet ((go_at_call 10; exact Calls.quiet_of (yy_zero _ _ _ _ _)))
    go_wp2
    go_ret
    exact ⟨rfl, below_drewN B4.out _⟩

set_option maxRecDepth 100000 in
set_option maxHeartbeats 2000000 in
theorem f4_nil (w : World) :
    Calls Try.prog 4 #[.slice none 0 0, .int .i64 0, .int .i64 0] w fun e w' => e = .returned (.bool true) ∧ Below w.heap.size w w' := by
  have c7 : Hid (∀ wx, Calls Try.prog 11 #[.slice none 0 0, .int .i64 0, .int .i64 0] wx fun e w' => RetBool e ∧ ∃ k, w' = wx.drewN k) := fun wx => (bytes11_zero none 0 0 0 wx).mono fun e w' h => ⟨h.1, 0, h.2⟩
  have c8 : Hid (∀ wx, Calls Try.prog 8 #[.slice none 0 0] wx fun e w' => RetBool e ∧ ∃ k, w' = wx.drewN k) := fun wx => lbytes_zero none 0 wx
  have c9 : Hid (∀ wx, Calls Try.prog 9 #[.slice none 0 0] wx fun e w' => e = .returned (.slice none 0 0) ∧ ∃ k, w' = wx.drewN k) := fun wx => (copy_nil wx).mono fun e w' h => ⟨h.1, 0, h.2⟩
  obtain ⟨i0, hi0, hz0, hz1, hz2⟩ := info_parts Try.info31
  go_enter Try.func4, Try.ntmps4
  go_wp2_with fail
  refine (c7.out w).mono ?_
  rintro e w' ⟨⟨r, rfl⟩, m0, rfl⟩
  cases r
  · go_wp2
    go_ret
    exact ⟨rfl, below_drewN (Below.refl _ _) _⟩
  go_wp2_with fail
  refine (c8.out _).mono ?_
  rintro e w' ⟨⟨r, rfl⟩, m, rfl⟩
  cases r
  · go_wp2
    go_ret
    exact ⟨rfl, below_drewN (Below.refl _ _) _⟩
  go_wp2_with fail
  refine (c9.out _).mono ?_
  rintro e w' ⟨rfl, m5, rfl⟩
  go_wp2_with fail
  refine (c9.out _).mono ?_
  rintro e w2 ⟨rfl, m6, hw2⟩
  have B2 : Hid (Below w.heap.size w w2) := by rw [hw2]; exact below_drewN (below_drewN (Below.refl _ _) _) _
  clear hw2
  go_wp2_with fail
  refine (yy_zero _ _ _ _ _).mono ?_
  rintro e w' ⟨rfl, m2, rfl⟩
  go_wp2_with fail
  refine (yy_zero _ _ _ _ _).mono ?_
  rintro e w' ⟨rfl, m3, rfl⟩
  go_wp2_with (at_builtin; refine wpList_append_grows _ rfl _ _ 26 rfl 31 i0 _ 2 32 Try.underlying26 hi0 hz0 hz1 hz2 rfl (by decide) _ _ _ [] rfl (fun _ => ⟨rfl, rfl⟩) rfl (no_olds _) ⟨w2.heap.size, 0, none⟩ 1 1 [.string ⟨#[120]⟩, .string ⟨#[121]⟩] rfl rfl (cell_two_new (w2.drewN (m2 + m3)) _ _ 31) two_one (by omega) one_le (by omega) ?_)
  intro v' w3 hown hgrow
  obtain ⟨g, cp, hv, hg, hcp, hB⟩ := owned_row hown (by omega)
  have hsz : w.heap.size ≤ w2.heap.size := B2.out.size
  have B3 : Hid (Below w.heap.size w w3) := ((below_drewN B2.out (m2 + m3)).alloc (by simpa using hsz) _).grown hgrow (by simp; omega) (by simp)
  rw [hv]
  clear hown hgrow hv hB
  have s1 : (1 : Int) ≤ (cp : Int) := by omega
  have s5 : ¬ cp = 0 := by omega
  go_wp2_with fail
  refine (yy_zero _ _ _ _ _).mono ?_
  rintro e w4 ⟨rfl, m4, hw4⟩
  have B4 : Hid (Below w.heap.size w w4) := by rw [hw4]; exact below_drewN B3.out _
  clear hw4
  go_wp2_with fail
  go_quiet ((go_at_call 10; exact Calls.quiet_of (yy_zero _ _ _ _ _)))
  go_wp2
  go_ret
  exact ⟨rfl, below_drewN B4.out _⟩

/-- THE WALK, WHATEVER THE INPUT. -/
theorem f4_any (ao : Option Addr) (len cap : Nat) (i n : Int) (w : World) (hm : len ≤ maxLen) (h : LabIn w ao len) (hnil : ao = none → len = 0 ∧ cap = 0) :
    Calls Try.prog 4 #[.slice ao len cap, .int .i64 i, .int .i64 n] w fun e w' => e = .returned (.bool true) ∧ Below w.heap.size w w' := by
  by_cases hl : 4096 < len
  · exact f4_long ao len cap i n w hm hl h
  by_cases hin : 0 ≤ i ∧ 0 ≤ n ∧ i + n ≤ len
  · obtain ⟨h1, h3, h4⟩ := hin
    obtain ⟨i, rfl⟩ := Int.eq_ofNat_of_zero_le h1
    obtain ⟨n, rfl⟩ := Int.eq_ofNat_of_zero_le h3
    cases ao with
    | none =>
      obtain ⟨rfl, rfl⟩ := hnil rfl
      obtain rfl : i = 0 := by omega
      obtain rfl : n = 0 := by omega
      exact f4_nil w
    | some a =>
      by_cases hn : n = 0
      · subst hn
        exact f4_zero a len cap i w (by omega) h (by omega)
      · exact f4_pos a len cap i n w (by omega) h (by omega) (by omega)
  · exact f4_out ao len cap i n w (by omega) h (by omega)
end Go.Proofs.Qxb6615577a
