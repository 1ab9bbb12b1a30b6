/- toLabels (9): its contracts. -/
import Derived.Test.Qxb6615577aBytes
import Derived.Lib.SliceRun
namespace Go.Proofs.Qxb6615577a
open Go.RowKit

/-- Block b is a row of n string cells of type 31, none frozen. -/
def RowStr (w : World) (b n : Nat) : Prop :=
  ∃ c : Array Value, w.heap[b]? = some (.cells c 31 (0, 0)) ∧ c.size = n ∧ ∀ i, i < n → ∃ s, c[i]? = some (.string s)

theorem RowStr.lt {w : World} {b n : Nat} (h : RowStr w b n) : b < w.heap.size := by
  obtain ⟨c, hc, _⟩ := h
  exact (Array.getElem?_eq_some_iff.1 hc).1

theorem RowStr.cell {w : World} {b n : Nat} (h : RowStr w b n) {i : Nat} (hi : i < n) : ∃ s, w.cell? ⟨b, i, none⟩ = some (.string s) := by
  obtain ⟨c, hc, _, hs⟩ := h
  obtain ⟨s, hs⟩ := hs i hi
  exact ⟨s, by simp [World.cell?, hc, hs]⟩

theorem RowStr.frozen {w : World} {b n : Nat} (h : RowStr w b n) (i : Nat) : w.frozen? ⟨b, i, none⟩ = false := by
  obtain ⟨c, hc, _⟩ := h
  simp [World.frozen?, hc]

theorem RowStr.of_block {w w' : World} {b n : Nat} (h : RowStr w b n) (e : w'.heap[b]? = w.heap[b]?) : RowStr w' b n := by
  obtain ⟨c, hc, h2⟩ := h
  exact ⟨c, e.trans hc, h2⟩

theorem RowStr.set {w : World} {b n : Nat} (h : RowStr w b n) (i : Nat) (s : ByteArray) : RowStr (w.setCell ⟨b, i, none⟩ (.string s)) b n := by
  obtain ⟨c, hc, hn, hs⟩ := h
  refine ⟨c.setIfInBounds i (.string s), ?_, by simpa using hn, fun j hj => ?_⟩
  · simp [World.setCell, Array.getElem?_modify, hc]
  · by_cases e : i = j
    · subst e
      exact ⟨s, by simp [hn, hj]⟩
    · obtain ⟨s', h'⟩ := hs j hj
      exact ⟨s', by rw [Array.getElem?_setIfInBounds, if_neg e]; exact h'⟩

theorem made_str (n : Nat) (i : Nat) (h : i < n) : (madeCells #[.string ByteArray.empty, .string ByteArray.empty] n)[i]? = some (.string ByteArray.empty) := by
  have h2 : i % 2 = 0 ∨ i % 2 = 1 := by omega
  simp only [madeCells]
  rcases h2 with e | e <;> simp [h, e]

theorem row_of_owns {w : World} {B n : Nat} (h : w.ownsRow B 31 2 (.slice (some ⟨B, 0, none⟩) n n) n (madeCells (Value.agg #[.string ByteArray.empty, .string ByteArray.empty]).cells (n * 2)).toList) :
    RowStr w B (n * 2) := by
  obtain ⟨hl, h | ⟨g, cap, cur, hv, _, hc, _, _, hz, ht⟩⟩ := h
  · exact absurd h.1 (by simp)
  · simp only [Value.slice.injEq, Option.some.injEq, Addr.mk.injEq] at hv
    obtain ⟨⟨rfl, _, _⟩, _, rfl⟩ := hv
    refine ⟨cur, hc, hz, fun i hi => ⟨ByteArray.empty, ?_⟩⟩
    have e : cur.toList = (madeCells (Value.agg #[.string ByteArray.empty, .string ByteArray.empty]).cells (n * 2)).toList := by
      rw [← ht, List.take_of_length_le (by simp [hz])]
    have e2 : cur = madeCells (Value.agg #[.string ByteArray.empty, .string ByteArray.empty]).cells (n * 2) := Array.toList_inj.1 e
    rw [e2]
    exact made_str _ _ hi

set_option maxHeartbeats 400000 in
theorem copy_nil (w : World) : Calls Try.prog 9 #[.slice none 0 0] w fun e w' => e = .returned (.slice none 0 0) ∧ w' = w := by
  have q22 : ∀ (w : World) (a : Option Addr) (n c n' c' : Nat), (binOp .eql 22 (.slice a n c) (.slice none n' c')).run Try.prog w = .ok (.bool a.isNone) w := fun w a n c n' c' => Lib.run_eql_slice_nil w _ _ a n c n' c' Try.underlying22
  go_enter Try.func9, Try.ntmps9
  go_wp2
  go_ret
  exact ⟨rfl, rfl⟩

set_option maxHeartbeats 400000 in
theorem copy_zero (a : Addr) (cap : Nat) (w : World) : Calls Try.prog 9 #[.slice (some a) 0 cap] w fun e w' => e = .returned (.slice (some ⟨w.heap.size, 0, none⟩) 0 0) ∧ RowStr w' w.heap.size 0 ∧ Below w.heap.size w w' := by
  have q22 : ∀ (w : World) (a : Option Addr) (n c n' c' : Nat), (binOp .eql 22 (.slice a n c) (.slice none n' c')).run Try.prog w = .ok (.bool a.isNone) w := fun w a n c n' c' => Lib.run_eql_slice_nil w _ _ a n c n' c' Try.underlying22
  obtain ⟨i0, hi, hz0, hz1, hz2⟩ := info_parts Try.info31
  go_enter Try.func9, Try.ntmps9
  go_wp2_with (at_make; refine wpList_make_full _ rfl _ _ 26 rfl w.heap.size 31 i0 _ 2 Try.underlying26 hi hz0 hz1 .i64 .i64 _ _ 0 rfl rfl rfl rfl (by omega) (by simp [maxLen]) (Nat.le_refl _) ?_; intro w1 hown hgrow)
  have hrow := row_of_owns hown
  have hbel : Below w.heap.size w w1 := (Below.refl _ _).grown hgrow (Nat.le_refl _) (by simp)
  clear hown hgrow
  go_loop [12] (fun i => i = .int .i64 0) (fun i => 0)
  case atStart => rfl
  case round =>
    subst hrel
    go_wp2
    go_ret
    exact ⟨rfl, by simpa using hrow, hbel⟩

set_option maxHeartbeats 1000000 in
theorem copy_any (b off len cap : Nat) (N V : Nat → ByteArray) (w : World) (hl : len ≤ 4096) (hb : b < w.heap.size) (hc : LabAt w b off len N V) :
    Calls Try.prog 9 #[.slice (some ⟨b, off, none⟩) len cap] w fun e w' => e = .returned (.slice (some ⟨w.heap.size, 0, none⟩) len len) ∧ RowStr w' w.heap.size (len * 2) ∧ Below w.heap.size w w' := by
  have q22 : ∀ (w : World) (a : Option Addr) (n c n' c' : Nat), (binOp .eql 22 (.slice a n c) (.slice none n' c')).run Try.prog w = .ok (.bool a.isNone) w := fun w a n c n' c' => Lib.run_eql_slice_nil w _ _ a n c n' c' Try.underlying22
  obtain ⟨i0, hi, hz0, hz1, hz2⟩ := info_parts Try.info31
  have g1 : Hid (i0.bytes * len ≤ 281474976710656) := by show i0.bytes * len ≤ _; rw [hz2]; omega
  have g2 : Hid (len ≤ maxLen) := by show len ≤ maxLen; unfold maxLen; omega
  go_enter Try.func9, Try.ntmps9
  go_wp2_with (at_make; refine wpList_make_full _ rfl _ _ 26 rfl w.heap.size 31 i0 _ 2 Try.underlying26 hi hz0 hz1 .i64 .i64 _ _ len rfl rfl rfl rfl g1.out g2.out (Nat.le_refl _) ?_; intro w1 hown hgrow)
  have hrow := row_of_owns hown
  have hbel : Below w.heap.size w w1 := (Below.refl _ _).grown hgrow (Nat.le_refl _) (by simp)
  clear hown hgrow
  go_loopw [12] (fun i wr => ∃ k : Nat, k ≤ len ∧ i = .int .i64 k ∧ RowStr wr w.heap.size (len * 2) ∧ Below w.heap.size w wr) (fun i _ => len - (intOf i).toNat)
  case atStart => exact ⟨0, Nat.zero_le _, rfl, hrow, hbel⟩
  case round =>
    clear hrow hbel
    obtain ⟨k, hk, rfl, hrow, hbel⟩ := hrel
    by_cases hlt : k < len
    · obtain ⟨c0, c1, z0, z1⟩ := hc k hlt
      have d0 := (hbel.cell (p := ⟨b, off + k * 2, none⟩) hb).trans c0
      have d1 := (hbel.cell (p := ⟨b, off + k * 2 + 1, none⟩) hb).trans c1
      obtain ⟨s0, e0⟩ := hrow.cell (i := k * 2) (by omega)
      obtain ⟨s1, e1⟩ := hrow.cell (i := k * 2 + 1) (by omega)
      have f0 := hrow.frozen (k * 2)
      have f1 := hrow.frozen (k * 2 + 1)
      have hlt' : (k : Int) < len := by omega
      have hne : b ≠ w.heap.size := by omega
      clear hc c0 c1 z0 z1
      go_wp2
      go_region
      all_goals go_wp2
      all_goals
        go_roundw
        case rel => exact ⟨k + 1, by omega, by go_num, (hrow.set (k * 2) _).set (k * 2 + 1) _, ((hbel.setCell (p := ⟨w.heap.size, k * 2, none⟩) (Nat.le_refl _) _).setCell (p := ⟨w.heap.size, k * 2 + 1, none⟩) (Nat.le_refl _) _).drew⟩
        case measure => simp [intOf]; omega
    · clear hc
      go_wp2
      go_ret
      exact ⟨rfl, hrow, hbel⟩

/-- A slice of two-string structs that came in: nil or empty, or its cells lie in memory. -/
def LabIn (w : World) (ao : Option Addr) (len : Nat) : Prop := len = 0 ∨ ∃ b off N V, ao = some ⟨b, off, none⟩ ∧ LabAt w b off len N V

theorem LabAt.carry {w w' : World} {b off len : Nat} {N V : Nat → ByteArray} (h : LabAt w b off len N V) (e : ∀ p : Addr, p.block < w.heap.size → w'.cell? p = w.cell? p) : LabAt w' b off len N V := by
  intro i hi
  obtain ⟨c0, c1, z0, z1⟩ := h i hi
  exact ⟨(e _ (block_lt_of_cell c0)).trans c0, (e _ (block_lt_of_cell c1)).trans c1, z0, z1⟩

theorem LabIn.carry {w w' : World} {ao : Option Addr} {len : Nat} (h : LabIn w ao len) (e : ∀ p : Addr, p.block < w.heap.size → w'.cell? p = w.cell? p) : LabIn w' ao len := by
  rcases h with h | ⟨b, off, N, V, h1, h2⟩
  · exact Or.inl h
  · exact Or.inr ⟨b, off, N, V, h1, h2.carry e⟩

theorem LabIn.below {w w' : World} {ao : Option Addr} {len : Nat} (h : LabIn w ao len) (hb : Below w.heap.size w w') : LabIn w' ao len := h.carry fun _ hp => hb.cell hp
theorem LabIn.drewN {w : World} {ao : Option Addr} {len : Nat} (h : LabIn w ao len) (k : Nat) : LabIn (w.drewN k) ao len := h.carry fun _ _ => by simp

theorem bytes7 (ao : Option Addr) (len cap : Nat) (i j n : Int) (w : World) (hl : len ≤ maxLen) (h : LabIn w ao len) :
    Calls Try.prog 7 #[.slice ao len cap, .int .i64 i, .int .i64 j, .int .i64 n] w fun e w' => RetBool e ∧ w' = w := by
  rcases h with rfl | ⟨b, off, N, V, rfl, h⟩
  · exact bytes7_zero ao cap i j n w
  · exact bytes7_any b off len cap N V i j n w hl h

theorem bytes11 (ao : Option Addr) (len cap : Nat) (i n : Int) (w : World) (hl : len ≤ maxLen) (h : LabIn w ao len) :
    Calls Try.prog 11 #[.slice ao len cap, .int .i64 i, .int .i64 n] w fun e w' => RetBool e ∧ w' = w := by
  rcases h with rfl | ⟨b, off, N, V, rfl, h⟩
  · exact bytes11_zero ao cap i n w
  · exact bytes11_any b off len cap N V i n w hl h

theorem lbytes (ao : Option Addr) (len cap : Nat) (w : World) (hl : len ≤ maxLen) (h : LabIn w ao len) :
    Calls Try.prog 8 #[.slice ao len cap] w fun e w' => RetBool e ∧ ∃ k, w' = w.drewN k := by
  rcases h with rfl | ⟨b, off, N, V, rfl, h⟩
  · exact lbytes_zero ao cap w
  · exact lbytes_any b off len cap N V w hl h

theorem copyOf (a : Addr) (len cap : Nat) (w : World) (hl : len ≤ 4096) (h : LabIn w (some a) len) :
    Calls Try.prog 9 #[.slice (some a) len cap] w fun e w' => e = .returned (.slice (some ⟨w.heap.size, 0, none⟩) len len) ∧ RowStr w' w.heap.size (len * 2) ∧ Below w.heap.size w w' := by
  by_cases h0 : len = 0
  · subst h0; exact copy_zero a cap w
  · rcases h with h | ⟨b, off, N, V, e, h⟩
    · exact absurd h h0
    · obtain rfl := Option.some.inj e
      exact copy_any b off len cap N V w hl (block_lt_of_cell (h 0 (by omega)).1) h
end Go.Proofs.Qxb6615577a
