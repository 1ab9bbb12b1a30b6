/- The bounds' own functions of the matchers (12, 19, 13), isEq (21). -/
import Derived.Test.Qxb6615577aEq
import Derived.Test.Qxb6615577aOpen3
namespace Go.Proofs.Qxb6615577a
open Go.RowKit

set_option maxHeartbeats 1000000 in
theorem bytes12 (hs : Bool) (ao : Option Addr) (len cap : Nat) (o a t x : Int) (w : World) (hl : len ≤ maxLen) {M : Nat → Mtc} (h : MIn w ao len M) :
    Calls Try.prog 12 #[.bool hs, .slice ao len cap, .int .i64 o, .int .i64 a, .int .i64 t, .int .i64 x] w fun e w' => RetBool e ∧ w' = w := by
  unfold maxLen at hl
  by_cases h0 : (1048576 : Int) < len
  · go_enter Try.func12, Try.ntmps12
    go_wp2
    go_ret
    exact ⟨⟨_, rfl⟩, rfl⟩
  have H : Hid (MIn w ao len M) := h
  clear h
  go_enter Try.func12, Try.ntmps12
  go_wp2
  go_loop [13, 14] (fun z i => ∃ (k : Nat) (q : Int), k ≤ len ∧ 0 ≤ q ∧ q ≤ 1048576 ∧ z = .int .i64 q ∧ i = .int .i64 k) (fun _ i => len - (intOf i).toNat)
  case atStart => exact ⟨0, _, Nat.zero_le _, by omega, by omega, rfl, rfl⟩
  case round =>
    obtain ⟨k, q, hk, hq0, hq1, rfl, rfl⟩ := hrel
    by_cases hlt : k < len
    · rcases H.out with hz | ⟨b, off, rfl, hb, hc⟩
      · omega
      obtain ⟨c0, c1, c2, z0, z1⟩ := hc k hlt
      unfold maxLen at z0 z1
      clear hc
      go_wp2
      all_goals first
        | (go_round
           case rel => exact ⟨k + 1, _, by omega, by omega, by omega, rfl, by go_num⟩
           case measure => simp [intOf]; omega)
        | (go_ret; exact ⟨⟨_, rfl⟩, rfl⟩)
    · go_wp2
      go_ret
      exact ⟨⟨_, rfl⟩, rfl⟩

set_option maxHeartbeats 1000000 in
theorem bytes19 (hs : Bool) (ao : Option Addr) (len cap : Nat) (o a t x y : Int) (w : World) (hl : len ≤ maxLen) {M : Nat → Mtc} (h : MIn w ao len M) :
    Calls Try.prog 19 #[.bool hs, .slice ao len cap, .int .i64 o, .int .i64 a, .int .i64 t, .int .i64 x, .int .i64 y] w fun e w' => RetBool e ∧ w' = w := by
  unfold maxLen at hl
  by_cases h0 : (1048576 : Int) < len
  · go_enter Try.func19, Try.ntmps19
    go_wp2
    go_ret
    exact ⟨⟨_, rfl⟩, rfl⟩
  have H : Hid (MIn w ao len M) := h
  clear h
  go_enter Try.func19, Try.ntmps19
  go_wp2
  go_loop [15, 16] (fun z i => ∃ (k : Nat) (q : Int), k ≤ len ∧ 0 ≤ q ∧ q ≤ 1048576 ∧ z = .int .i64 q ∧ i = .int .i64 k) (fun _ i => len - (intOf i).toNat)
  case atStart => exact ⟨0, _, Nat.zero_le _, by omega, by omega, rfl, rfl⟩
  case round =>
    obtain ⟨k, q, hk, hq0, hq1, rfl, rfl⟩ := hrel
    by_cases hlt : k < len
    · rcases H.out with hz | ⟨b, off, rfl, hb, hc⟩
      · omega
      obtain ⟨c0, c1, c2, z0, z1⟩ := hc k hlt
      unfold maxLen at z0 z1
      clear hc
      go_wp2
      all_goals first
        | (go_round
           case rel => exact ⟨k + 1, _, by omega, by omega, by omega, rfl, by go_num⟩
           case measure => simp [intOf]; omega)
        | (go_ret; exact ⟨⟨_, rfl⟩, rfl⟩)
    · go_wp2
      go_ret
      exact ⟨⟨_, rfl⟩, rfl⟩

set_option maxHeartbeats 1000000 in
theorem mbytes (ao : Option Addr) (len cap : Nat) (w : World) (hl : len ≤ maxLen) {M : Nat → Mtc} (h : MIn w ao len M) :
    Calls Try.prog 13 #[.slice ao len cap] w fun e w' => RetBool e ∧ ∃ k, w' = w.drewN k := by
  unfold maxLen at hl
  have H : Hid (MIn w ao len M) := h
  clear h
  go_enter Try.func13, Try.ntmps13
  go_wp2
  go_loopw [3, 7] (fun z i wr => ∃ (k m : Nat) (q : Int), k ≤ len ∧ 0 ≤ q ∧ q ≤ 1048576 ∧ z = .int .i64 q ∧ i = .int .i64 k ∧ wr = w.drewN m) (fun _ i _ => len - (intOf i).toNat)
  case atStart => exact ⟨0, 0, _, Nat.zero_le _, by omega, by omega, rfl, rfl, rfl⟩
  case round =>
    obtain ⟨k, m, q, hk, hq0, hq1, rfl, rfl, rfl⟩ := hrel
    by_cases hlt : k < len
    · rcases H.out with hz | ⟨b, off, rfl, hb, hc⟩
      · omega
      obtain ⟨c0, c1, c2, z0, z1⟩ := hc k hlt
      unfold maxLen at z0 z1
      have hlt' : (k : Int) < len := by omega
      clear hc
      go_wp2
      all_goals first
        | (go_ret; exact ⟨⟨_, rfl⟩, _, rfl⟩)
        | (go_quiet (fail)
           go_wp2
           all_goals first
            | (go_roundw
               case rel => exact ⟨k + 1, _, _, by omega, by omega, by omega, rfl, by go_num, rfl⟩
               case measure => simp [intOf]; omega)
            | (go_ret; exact ⟨⟨_, rfl⟩, _, rfl⟩))
    · go_wp2
      go_ret
      exact ⟨⟨_, rfl⟩, _, rfl⟩

set_option maxHeartbeats 1000000 in
theorem isEq_any (m : Mtc) (w : World) : Calls Try.prog 21 #[.agg #[.int .i64 m.ty, .string m.nm, .string m.vl]] w fun e w' => e = .returned (.bool m.eq) ∧ Below w.heap.size w w' := by
  obtain ⟨t, s, v⟩ := m
  show Calls Try.prog 21 #[.agg #[.int .i64 t, .string s, .string v]] w fun e w' => e = .returned (.bool (Mtc.eq ⟨t, s, v⟩)) ∧ Below w.heap.size w w'
  by_cases ht : t = 0
  · subst ht
    cases hN : (s.toList == [95, 95, 110, 97, 109, 101, 95, 95])
    · have he : Mtc.eq ⟨0, s, v⟩ = true := by unfold Mtc.eq; rw [bName_list, hN]; rfl
      go_enter Try.func21, Try.ntmps21
      go_wp2
      go_ret
      exact ⟨by rw [he]; rfl, (Below.refl _ _).alloc (Nat.le_refl _) _⟩
    · have he : Mtc.eq ⟨0, s, v⟩ = false := by unfold Mtc.eq; rw [bName_list, hN]; rfl
      go_enter Try.func21, Try.ntmps21
      go_wp2
      go_ret
      exact ⟨by rw [he]; rfl, (Below.refl _ _).alloc (Nat.le_refl _) _⟩
  · have ht' : (t == 0) = false := by simpa using ht
    have he : Mtc.eq ⟨t, s, v⟩ = false := by unfold Mtc.eq; simp [ht]
    go_enter Try.func21, Try.ntmps21
    go_wp2
    go_ret
    exact ⟨by rw [he]; rfl, (Below.refl _ _).alloc (Nat.le_refl _) _⟩

/-- A world that has grown out of w0. -/
structure ExtW (w0 : World) where
  w : World
  h : Below w0.heap.size w0 w
instance (w0 : World) : Nonempty (ExtW w0) := ⟨⟨w0, Below.refl _ _⟩⟩

theorem isEq_ext {w0 : World} {t : Int} {s v : ByteArray} {r : Bool} (hr : Mtc.eq ⟨t, s, v⟩ = r) (x : ExtW w0) : Calls Try.prog 21 #[.agg #[.int .i64 t, .string s, .string v]] x.w fun e w'' => e = .returned (.bool r) ∧ ∃ y : ExtW w0, w'' = y.w :=
  (isEq_any ⟨t, s, v⟩ x.w).mono fun e w' ⟨he, hb⟩ => ⟨by rw [he, hr], ⟨w', x.h.trans (hb.mono x.h.size)⟩, rfl⟩

theorem wp_region_ext {P : Program} {id : Nat} {Q : Exit → Act → World → Prop} {a : Act} {w : World} {l : List Oper} (hm : P.follows .mixedOrders = true) (hB : Region.lexB .any l.toArray = true)
    (h : wpQuiet P l.toArray (fun w' => ∃ x : ExtW w, w' = x.w) (fun a' => ∀ w', (∃ x : ExtW w, w' = x.w) → Q .normal a' w') l a) : (Code.region id l.toArray true).wp P Q a w :=
  wp_region_quiet (C := fun w' => ∃ x : ExtW w, w' = x.w) hm hB ⟨⟨w.drew, (Below.refl _ _).drew⟩, rfl⟩ (by simpa using h)
end Go.Proofs.Qxb6615577a
