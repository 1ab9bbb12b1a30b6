/- The bounds' own functions (7, 8, 11), ZZsameSlice (10). -/
import Derived.Test.Qxb6615577aSame
namespace Go.Proofs.Qxb6615577a
open Go.RowKit

/-- A slice of two-string structs, as it lies in memory. -/
def LabAt (w : World) (b off len : Nat) (N V : Nat → ByteArray) : Prop :=
  ∀ i, i < len → w.cell? ⟨b, off + i * 2, none⟩ = some (.string (N i)) ∧ w.cell? ⟨b, off + i * 2 + 1, none⟩ = some (.string (V i)) ∧ (N i).size ≤ maxLen ∧ (V i).size ≤ maxLen

/-- Some bool is handed back. -/
def RetBool (e : Ending) : Prop := ∃ r, e = .returned (.bool r)

set_option maxHeartbeats 400000 in
theorem zz10 (a b : Value) (w : World) (r : Bool) (h : Calls Try.prog 24 #[a, b] w fun e w' => e = .returned (.bool r) ∧ ∃ k, w' = w.drewN k) :
    Calls Try.prog 10 #[a, b] w fun e w' => e = .returned (.bool r) ∧ ∃ k, w' = w.drewN k := by
  have H : Hid (Calls Try.prog 24 #[a, b] w fun e w' => e = .returned (.bool r) ∧ ∃ k, w' = w.drewN k) := h
  clear h
  go_enter Try.func10, Try.ntmps10
  go_wp2_with fail
  refine H.out.mono ?_
  rintro e w' ⟨rfl, k, rfl⟩
  go_wp2
  go_ret
  exact ⟨rfl, _, rfl⟩

set_option maxHeartbeats 400000 in
theorem bytes7_zero (ao : Option Addr) (cap : Nat) (i j n : Int) (w : World) :
    Calls Try.prog 7 #[.slice ao 0 cap, .int .i64 i, .int .i64 j, .int .i64 n] w fun e w' => RetBool e ∧ w' = w := by
  go_enter Try.func7, Try.ntmps7
  go_wp2
  go_loop [9, 10] (fun z i => z = .int .i64 0 ∧ i = .int .i64 0) (fun _ i => 0)
  case atStart => exact ⟨rfl, rfl⟩
  case round =>
    obtain ⟨rfl, rfl⟩ := hrel
    go_wp2
    go_ret
    exact ⟨⟨_, rfl⟩, rfl⟩

set_option maxHeartbeats 1000000 in
theorem bytes7_any (b off len cap : Nat) (N V : Nat → ByteArray) (i j n : Int) (w : World) (hl : len ≤ maxLen) (hc : LabAt w b off len N V) :
    Calls Try.prog 7 #[.slice (some ⟨b, off, none⟩) len cap, .int .i64 i, .int .i64 j, .int .i64 n] w fun e w' => RetBool e ∧ w' = w := by
  unfold maxLen at hl
  by_cases h0 : (1048576 : Int) < len
  · go_enter Try.func7, Try.ntmps7
    go_wp2
    go_ret
    exact ⟨⟨_, rfl⟩, rfl⟩
  go_enter Try.func7, Try.ntmps7
  go_wp2
  go_loop [9, 10] (fun z i => ∃ (k : Nat) (q : Int), k ≤ len ∧ 0 ≤ q ∧ q ≤ 1048576 ∧ z = .int .i64 q ∧ i = .int .i64 k) (fun _ i => len - (intOf i).toNat)
  case atStart => exact ⟨0, _, Nat.zero_le _, by omega, by omega, rfl, rfl⟩
  case round =>
    obtain ⟨k, q, hk, hq0, hq1, rfl, rfl⟩ := hrel
    by_cases hlt : k < len
    · obtain ⟨c0, c1, z0, z1⟩ := hc k hlt
      unfold maxLen at z0 z1
      clear hc
      go_wp2
      all_goals first
        | (go_round
           case rel => exact ⟨k + 1, _, by omega, by omega, by omega, rfl, by go_num⟩
           case measure => simp [intOf]; omega)
        | (go_ret; exact ⟨⟨_, rfl⟩, rfl⟩)
    · clear hc
      go_wp2
      go_ret
      exact ⟨⟨_, rfl⟩, rfl⟩

set_option maxHeartbeats 400000 in
theorem bytes11_zero (ao : Option Addr) (cap : Nat) (i n : Int) (w : World) :
    Calls Try.prog 11 #[.slice ao 0 cap, .int .i64 i, .int .i64 n] w fun e w' => RetBool e ∧ w' = w := by
  go_enter Try.func11, Try.ntmps11
  go_wp2
  go_loop [7, 8] (fun z i => z = .int .i64 0 ∧ i = .int .i64 0) (fun _ i => 0)
  case atStart => exact ⟨rfl, rfl⟩
  case round =>
    obtain ⟨rfl, rfl⟩ := hrel
    go_wp2
    go_ret
    exact ⟨⟨_, rfl⟩, rfl⟩

set_option maxHeartbeats 1000000 in
theorem bytes11_any (b off len cap : Nat) (N V : Nat → ByteArray) (i n : Int) (w : World) (hl : len ≤ maxLen) (hc : LabAt w b off len N V) :
    Calls Try.prog 11 #[.slice (some ⟨b, off, none⟩) len cap, .int .i64 i, .int .i64 n] w fun e w' => RetBool e ∧ w' = w := by
  unfold maxLen at hl
  by_cases h0 : (1048576 : Int) < len
  · go_enter Try.func11, Try.ntmps11
    go_wp2
    go_ret
    exact ⟨⟨_, rfl⟩, rfl⟩
  go_enter Try.func11, Try.ntmps11
  go_wp2
  go_loop [7, 8] (fun z i => ∃ (k : Nat) (q : Int), k ≤ len ∧ 0 ≤ q ∧ q ≤ 1048576 ∧ z = .int .i64 q ∧ i = .int .i64 k) (fun _ i => len - (intOf i).toNat)
  case atStart => exact ⟨0, _, Nat.zero_le _, by omega, by omega, rfl, rfl⟩
  case round =>
    obtain ⟨k, q, hk, hq0, hq1, rfl, rfl⟩ := hrel
    by_cases hlt : k < len
    · obtain ⟨c0, c1, z0, z1⟩ := hc k hlt
      unfold maxLen at z0 z1
      clear hc
      go_wp2
      all_goals first
        | (go_round
           case rel => exact ⟨k + 1, _, by omega, by omega, by omega, rfl, by go_num⟩
           case measure => simp [intOf]; omega)
        | (go_ret; exact ⟨⟨_, rfl⟩, rfl⟩)
    · clear hc
      go_wp2
      go_ret
      exact ⟨⟨_, rfl⟩, rfl⟩

set_option maxHeartbeats 400000 in
theorem lbytes_zero (ao : Option Addr) (cap : Nat) (w : World) :
    Calls Try.prog 8 #[.slice ao 0 cap] w fun e w' => RetBool e ∧ ∃ k, w' = w.drewN k := by
  go_enter Try.func8, Try.ntmps8
  go_wp2
  go_loop [3, 7] (fun z i => z = .int .i64 0 ∧ i = .int .i64 0) (fun _ i => 0)
  case atStart => exact ⟨rfl, rfl⟩
  case round =>
    obtain ⟨rfl, rfl⟩ := hrel
    go_wp2
    go_ret
    exact ⟨⟨_, rfl⟩, 0, rfl⟩

set_option maxHeartbeats 1000000 in
theorem lbytes_any (b off len cap : Nat) (N V : Nat → ByteArray) (w : World) (hl : len ≤ maxLen) (hc : LabAt w b off len N V) :
    Calls Try.prog 8 #[.slice (some ⟨b, off, none⟩) len cap] w fun e w' => RetBool e ∧ ∃ k, w' = w.drewN k := by
  unfold maxLen at hl
  go_enter Try.func8, Try.ntmps8
  go_wp2
  go_loopw [3, 7] (fun z i wr => ∃ (k m : Nat) (q : Int), k ≤ len ∧ 0 ≤ q ∧ q ≤ 1048576 ∧ z = .int .i64 q ∧ i = .int .i64 k ∧ wr = w.drewN m) (fun _ i _ => len - (intOf i).toNat)
  case atStart => exact ⟨0, 0, _, Nat.zero_le _, by omega, by omega, rfl, rfl, rfl⟩
  case round =>
    obtain ⟨k, m, q, hk, hq0, hq1, rfl, rfl, rfl⟩ := hrel
    by_cases hlt : k < len
    · obtain ⟨c0, c1, z0, z1⟩ := hc k hlt
      unfold maxLen at z0 z1
      have hlt' : (k : Int) < len := by omega
      clear hc
      go_wp2
      all_goals first
        | (go_ret; exact ⟨⟨_, rfl⟩, _, rfl⟩)
        | (go_quiet (fail)
           go_wp2
           all_goals first
            | (go_roundw
               case rel => exact ⟨k + 1, _, _, by omega, by omega, by omega, rfl, by go_num, rfl⟩
               case measure => simp [intOf]; omega)
            | (go_ret; exact ⟨⟨_, rfl⟩, _, rfl⟩))
    · clear hc
      go_wp2
      go_ret
      exact ⟨⟨_, rfl⟩, _, rfl⟩
end Go.Proofs.Qxb6615577a
