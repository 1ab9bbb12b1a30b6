/- FnSameSliceNeverAcrossArrays (4): the walk. -/
import Derived.Test.Qxb6615577aCopy
namespace Go.Proofs.Qxb6615577a
open Go.RowKit

theorem yy_zero (ao bo : Option Addr) (c d : Nat) (w : World) : Calls Try.prog 10 #[.slice ao 0 c, .slice bo 0 d] w fun e w' => e = .returned (.bool true) ∧ ∃ k, w' = w.drewN k := zz10 _ _ _ _ (same_zero ao bo c d w)
theorem yy_eq (b o n c d : Nat) (w : World) (h : 0 < n) : Calls Try.prog 10 #[.slice (some ⟨b, o, none⟩) n c, .slice (some ⟨b, o, none⟩) n d] w fun e w' => e = .returned (.bool true) ∧ ∃ k, w' = w.drewN k := zz10 _ _ _ _ (same_eq b o n c d w (by omega))

/-- Block b is a row of cells of type 31, none frozen. -/
def Blk (w : World) (b : Nat) : Prop := ∃ c, w.heap[b]? = some (.cells c 31 (0, 0))
theorem Blk.drewN {w : World} {b : Nat} (h : Blk w b) (k : Nat) : Blk (w.drewN k) b := by obtain ⟨c, hc⟩ := h; exact ⟨c, by simpa using hc⟩
theorem RowStr.blk {w : World} {b n : Nat} (h : RowStr w b n) : Blk w b := by obtain ⟨c, hc, _⟩ := h; exact ⟨c, hc⟩
theorem yy_other (b1 o1 b2 o2 n c d : Nat) (w : World) (h : 0 < n) (hne : b1 ≠ b2) (h1 : Blk w b1) (h2 : Blk w b2) :
    Calls Try.prog 10 #[.slice (some ⟨b1, o1, none⟩) n c, .slice (some ⟨b2, o2, none⟩) n d] w fun e w' => e = .returned (.bool false) ∧ ∃ k, w' = w.drewN k := by
  obtain ⟨ca, ha⟩ := h1
  obtain ⟨cb, hb⟩ := h2
  exact zz10 _ _ _ _ (same_other b1 o1 b2 o2 n c d w (by omega) (Or.inl hne) ca cb 31 31 ha hb)

set_option maxHeartbeats 1000000 in
theorem f4_out (ao : Option Addr) (len cap : Nat) (i n : Int) (w : World) (hl : len ≤ 4096) (h : LabIn w ao len)
    (hbad : i < 0 ∨ 0 ≤ i ∧ (n < 0 ∨ 0 ≤ n ∧ (len < i ∨ i ≤ len ∧ len - i < n))) :
    Calls Try.prog 4 #[.slice ao len cap, .int .i64 i, .int .i64 n] w fun e w' => e = .returned (.bool true) ∧ Below w.heap.size w w' := by
  have hm : len ≤ maxLen := by unfold maxLen; omega
  have c7 : Hid (∀ wx, LabIn wx ao len → Calls Try.prog 11 #[.slice ao len cap, .int .i64 i, .int .i64 n] wx fun e w' => RetBool e ∧ ∃ k, w' = wx.drewN k) := fun wx hx => (bytes11 ao len cap i n wx hm hx).mono fun e w' h => ⟨h.1, 0, h.2⟩
  have c8 : Hid (∀ wx, LabIn wx ao len → Calls Try.prog 8 #[.slice ao len cap] wx fun e w' => RetBool e ∧ ∃ k, w' = wx.drewN k) := fun wx hx => lbytes ao len cap wx hm hx
  have H : Hid (LabIn w ao len) := h
  clear hm h
  rcases hbad with g | ⟨g1, g | ⟨g2, g | ⟨g3, g⟩⟩⟩
  all_goals
    go_enter Try.func4, Try.ntmps4
    go_wp2_with fail
    refine (c7.out w H.out).mono ?_
    rintro e w' ⟨⟨r, rfl⟩, m0, rfl⟩
    cases r
    · go_wp2
      go_ret
      exact ⟨rfl, below_drewN (Below.refl _ _) _⟩
    go_wp2_with fail
    refine (c8.out _ (LabIn.drewN H.out _)).mono ?_
    rintro e w' ⟨⟨r, rfl⟩, m, rfl⟩
    cases r
    · go_wp2
      go_ret
      exact ⟨rfl, below_drewN (Below.refl _ _) _⟩
    go_wp2
    go_ret
    exact ⟨rfl, below_drewN (Below.refl _ _) _⟩

set_option maxHeartbeats 1000000 in
theorem f4_long (ao : Option Addr) (len cap : Nat) (i n : Int) (w : World) (hm : len ≤ maxLen) (hl : 4096 < len) (h : LabIn w ao len) :
    Calls Try.prog 4 #[.slice ao len cap, .int .i64 i, .int .i64 n] w fun e w' => e = .returned (.bool true) ∧ Below w.heap.size w w' := by
  have c7 : Hid (Calls Try.prog 11 #[.slice ao len cap, .int .i64 i, .int .i64 n] w fun e w' => RetBool e ∧ ∃ k, w' = w.drewN k) := (bytes11 ao len cap i n w hm h).mono fun e w' h => ⟨h.1, 0, h.2⟩
  clear h hm
  go_enter Try.func4, Try.ntmps4
  go_wp2_with fail
  refine c7.out.mono ?_
  rintro e w' ⟨⟨r, rfl⟩, m0, rfl⟩
  cases r
  all_goals
    go_wp2
    go_ret
    exact ⟨rfl, below_drewN (Below.refl _ _) _⟩

theorem row_olds {w : World} {B len i n : Nat} (h : RowStr w B (len * 2)) (hin : i + n ≤ len) :
    ∃ olds : List Value, olds.length = n * 2 ∧ ∀ j u, olds[j]? = some u → w.cell? ⟨B, i * 2 + j, none⟩ = some u := by
  obtain ⟨c, hc, hn, _⟩ := h
  refine ⟨(c.toList.drop (i * 2)).take (n * 2), by simp [hn]; omega, fun j u hu => ?_⟩
  have hj : j < n * 2 := by
    have := (List.getElem?_eq_some_iff.1 hu).1
    simp at this; omega
  rw [List.getElem?_take, if_pos hj, List.getElem?_drop] at hu
  simpa [World.cell?, hc] using hu

theorem owned_row {w : World} {base n : Nat} {v : Value} {xs : List Value} (h : w.ownsRow base 31 2 v n xs) (hn : 0 < n) : ∃ g cap, v = .slice (some ⟨g, 0, none⟩) n cap ∧ base ≤ g ∧ n ≤ cap ∧ Blk w g := by
  obtain ⟨_, h | ⟨g, cap, cur, hv, hb, hc, hcap, _⟩⟩ := h
  · omega
  · exact ⟨g, cap, hv, hb, hcap, cur, hc⟩

theorem grown_blk {w w' : World} {o : Obj} {k b : Nat} (h : Blk w b) (hg : ((w.drewN k).alloc o).grownBy w' none) : Blk w' b := by
  obtain ⟨c, hc⟩ := h
  have hlt : b < w.heap.size := (Array.getElem?_eq_some_iff.1 hc).1
  refine ⟨c, ?_⟩
  rw [hg.block b (by simp; omega) (by simp), Below.heap_alloc _ _ _ (by simpa using hlt)]
  simpa using hc

set_option maxHeartbeats 2000000 in
theorem f4_pos (a : Addr) (len cap i n : Nat) (w : World) (hl : len ≤ 4096) (h : LabIn w (some a) len) (hn : 0 < n) (hi : i + n ≤ len) :
    Calls Try.prog 4 #[.slice (some a) len cap, .int .i64 i, .int .i64 n] w fun e w' => e = .returned (.bool true) ∧ Below w.heap.size w w' := by
  have hm : len ≤ maxLen := by unfold maxLen; omega
  have c7 : Hid (∀ wx, LabIn wx (some a) len → Calls Try.prog 11 #[.slice (some a) len cap, .int .i64 i, .int .i64 n] wx fun e w' => RetBool e ∧ ∃ k, w' = wx.drewN k) := fun wx hx => (bytes11 (some a) len cap i n wx hm hx).mono fun e w' h => ⟨h.1, 0, h.2⟩
  have c8 : Hid (∀ wx, LabIn wx (some a) len → Calls Try.prog 8 #[.slice (some a) len cap] wx fun e w' => RetBool e ∧ ∃ k, w' = wx.drewN k) := fun wx hx => lbytes (some a) len cap wx hm hx
  have c9 : Hid (∀ wx, LabIn wx (some a) len → Calls Try.prog 9 #[.slice (some a) len cap] wx fun e w' => e = .returned (.slice (some ⟨wx.heap.size, 0, none⟩) len len) ∧ RowStr w' wx.heap.size (len * 2) ∧ Below wx.heap.size wx w') := fun wx hx => copyOf a len cap wx hl hx
  have H : Hid (LabIn w (some a) len) := h
  clear hm h
  obtain ⟨i0, hi0, hz0, hz1, hz2⟩ := info_parts Try.info31
  have t0 : decide ((4096 : Int) < len) = false := by simp; omega
  have t1 : decide ((i : Int) < 0) = false := decide_eq_false (by omega)
  have t2' : decide ((n : Int) < 0) = false := decide_eq_false (by omega)
  have t3 : decide (len < i) = false := by simp; omega
  have t5 : decide ((len : Int) - i < n) = false := by simp; omega
  have t7 : ((n : Int) == 0) = false := by simp; omega
  have u1 : ¬ len = i := by omega
  go_enter Try.func4, Try.ntmps4
  go_wp2_with fail
  refine (c7.out w H.out).mono ?_
  rintro e w' ⟨⟨r, rfl⟩, m0, rfl⟩
  cases r
  · go_wp2
    go_ret
    exact ⟨rfl, below_drewN (Below.refl _ _) _⟩
  go_wp2_with fail
  refine (c8.out _ (LabIn.drewN H.out _)).mono ?_
  rintro e w' ⟨⟨r, rfl⟩, m, rfl⟩
  cases r
  · go_wp2
    go_ret
    exact ⟨rfl, below_drewN (Below.refl _ _) _⟩
  go_wp2_with fail
  refine (c9.out _ (LabIn.drewN H.out _)).mono ?_
  rintro e w1 ⟨rfl, hr1, hb1⟩
  have H1 : Hid (LabIn w1 (some a) len) := LabIn.below (LabIn.drewN H.out _) hb1
  have B1 : Hid (Below w.heap.size w w1) := (below_drewN (Below.refl _ _) _).trans hb1
  clear hb1
  go_wp2_with fail
  refine (c9.out _ H1.out).mono ?_
  rintro e w2 ⟨rfl, hr2, hb2⟩
  have B2 : Hid (Below w.heap.size w w2) := B1.out.trans (hb2.mono (B1.out.size))
  have R1 : Hid (RowStr w2 w.heap.size (len * 2)) := by show RowStr w2 w.heap.size (len * 2); simpa using hr1.of_block (hb2.block _ hr1.lt)
  have R2 : Hid (RowStr w2 w1.heap.size (len * 2)) := hr2
  have hlt : w.heap.size < w1.heap.size := by simpa using hr1.lt
  clear hb2 hr1 hr2
  go_wp2_with fail
  refine (yy_eq _ _ _ _ _ _ (by omega)).mono ?_
  rintro e w' ⟨rfl, m2, rfl⟩
  go_wp2_with fail
  refine (yy_other _ _ _ _ _ _ _ _ (by omega) (by omega) (R2.out.blk.drewN _) (R1.out.blk.drewN _)).mono ?_
  rintro e w' ⟨rfl, m3, rfl⟩
  obtain ⟨olds, hlo, hol⟩ := row_olds R1.out hi
  have HL : Hid (olds.length = n * 2) := hlo
  have HO : Hid (∀ j u, olds[j]? = some u → w2.cell? ⟨w.heap.size, i * 2 + j, none⟩ = some u) := hol
  clear hlo hol
  go_wp2_with (at_builtin; refine wpList_append_grows _ rfl _ _ 26 rfl 31 i0 _ 2 32 Try.underlying26 hi0 hz0 hz1 hz2 rfl (by decide) _ _ _ olds rfl ?h1 ?h0 ?h2 ⟨w2.heap.size, 0, none⟩ 1 1 [.string ⟨#[120]⟩, .string ⟨#[121]⟩] rfl rfl ?h3 ?h4 ?hx ?h5 ?h6 ?_)
  case h1 => intro h; cases h
  case h0 => rw [HL.out]; omega
  case h2 =>
    intro b hb j u hu
    obtain rfl := Option.some.inj hb
    rw [Addr.add_lit, World.cell?_alloc_past _ _ _ (by have := R1.out.lt; simpa using this)]
    simpa using HO.out j u hu
  case h3 => exact cell_two_new (w2.drewN (m2 + m3)) _ _ 31
  case h4 => intro u hu; simp at hu; rcases hu with rfl | rfl <;> rfl
  case hx => omega
  case h5 => unfold maxLen; omega
  case h6 => omega
  · intro v' w3 hown hgrow
    obtain ⟨g, cp, hv, hg, hcp, hB⟩ := owned_row hown (by omega)
    have hB0 : Blk w3 w.heap.size := grown_blk R1.out.blk hgrow
    have B3 : Hid (Below w.heap.size w w3) := ((below_drewN B2.out (m2 + m3)).alloc (by have := R1.out.lt; simp; omega) _).grown hgrow (by have := R1.out.lt; simp; omega) (by simp)
    have hgw : w.heap.size < g := by have := R1.out.lt; omega
    have BG : Hid (Blk w3 g ∧ Blk w3 w.heap.size) := ⟨hB, hB0⟩
    rw [hv]
    clear hown hgrow hv hB hB0
    have s1 : (n : Int) ≤ (cp : Int) := by omega
    have s2 : n ≤ cp := by omega
    have s3 : (0 : Int) ≤ (n : Int) := by omega
    have s4 : ¬ n = 0 := by omega
    have s5 : ¬ cp = 0 := by omega
    go_wp2_with fail
    refine (yy_other _ _ _ _ _ _ _ _ (by omega) (by omega) BG.out.1 BG.out.2).mono ?_
    rintro e w4 ⟨rfl, m4, hw4⟩
    have B4 : Hid (Below w.heap.size w w4) := by rw [hw4]; exact below_drewN B3.out _
    clear hw4
    go_wp2_with fail
    go_quiet ((go_at_call 10; exact Calls.quiet_of (yy_eq _ _ _ _ _ _ (by omega))))
    go_wp2
    go_ret
    exact ⟨rfl, below_drewN B4.out _⟩
end Go.Proofs.Qxb6615577a
