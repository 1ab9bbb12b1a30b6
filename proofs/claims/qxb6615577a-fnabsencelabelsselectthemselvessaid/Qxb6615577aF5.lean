/- FnAbsenceIsOneElementOfTheFixedLabels (5): the walk. -/
import Derived.Test.Qxb6615577aEm
namespace Go.Proofs.Qxb6615577a
open Go.RowKit

set_option maxRecDepth 10000 in
set_option maxHeartbeats 1000000 in
theorem em_zero (w : World) (ao : Option Addr) (cap : Nat) :
    Calls Try.prog 16 #[.slice ao 0 cap] w fun e w' => e = .returned (.slice none 0 0) ∧ w' = w := by
  go_enter Try.func16, Try.ntmps16
  go_wp2_with fail
  go_loopw [3, 11] (fun x y wr => x = .slice none 0 0 ∧ y = .int .i64 0 ∧ w = wr) (fun _ _ _ => 0)
  case atStart => exact ⟨rfl, rfl, rfl⟩
  case round =>
    obtain ⟨rfl, rfl, rfl⟩ := hrel
    go_wp2
    go_ret
    exact ⟨rfl, rfl⟩

theorem em_all {w : World} {ao : Option Addr} {len cap : Nat} {M : Nat → Mtc} (h : MIn w ao len M) (hl : len ≤ 4096) :
    Calls Try.prog 16 #[.slice ao len cap] w fun e w' => ∃ so n sc r, e = .returned (.slice so n sc) ∧ Hid (EmR M len len w w' so n sc r) := by
  rcases h with rfl | ⟨b, off, rfl, h1, h2⟩
  · refine (em_zero w ao cap).mono ?_
    rintro e w' ⟨rfl, rfl⟩
    exact ⟨none, 0, 0, fun _ => (ByteArray.empty, ByteArray.empty), rfl, Or.inl ⟨rfl, rfl, rfl⟩, SP.Sorted.of_le_one _ (by omega), Below.refl _ _, fun s v => ⟨fun ⟨j, hj, _⟩ => by omega, fun ⟨_, j, hj, _⟩ => by omega⟩⟩
  · exact em_any (Or.inr ⟨b, off, rfl, h1, h2⟩) hl

theorem Own8.lab {w : World} {base n sc : Nat} {so : Option Addr} {r : Nat → Lab} (h : Own8 w base so n sc r) : LabRow w so n r := fun i hi => by
  rcases h with ⟨_, h, _⟩ | ⟨g, h1, _, h3⟩
  · omega
  · exact ⟨g, h1, h3.lt, h3.cell0 hi, h3.cell1 hi⟩
theorem LabRow.drewN {w : World} {so : Option Addr} {n : Nat} {r : Nat → Lab} (h : LabRow w so n r) (k : Nat) : LabRow (w.drewN k) so n r := h

set_option maxRecDepth 10000 in
set_option maxHeartbeats 1000000 in
theorem same18 {w : World} {so to : Option Addr} {n c1 c2 : Nat} {r : Nat → Lab} (h1 : LabRow w so n r) (h2 : LabRow w to n r) (hn : n ≤ 1048576) :
    Calls Try.prog 18 #[.slice so n c1, .slice to n c2] w fun e w' => e = .returned (.bool true) ∧ ∃ k, w' = w.drewN k := by
  have H : Hid (LabRow w so n r ∧ LabRow w to n r) := ⟨h1, h2⟩
  clear h1 h2
  go_enter Try.func18, Try.ntmps18
  go_wp2_with fail
  go_loopw [13] (fun y wr => ∃ i m : Nat, i ≤ n ∧ y = .int .i64 i ∧ wr = w.drewN m) (fun y _ => n - (intOf y).toNat)
  case atStart => exact ⟨0, 0, Nat.zero_le _, rfl, rfl⟩
  case round =>
    obtain ⟨i, m, hi, rfl, rfl⟩ := hrel
    by_cases hlt : i < n
    · have hlt' : (i : Int) < n := by omega
      obtain ⟨A, rfl, _, a0, a1⟩ := H.out.1 i hlt
      obtain ⟨B, rfl, _, b0, b1⟩ := H.out.2 i hlt
      go_wp2_with fail
      go_quiet (fail)
      go_wp2_with fail
      go_roundw
      case rel => exact ⟨i + 1, _, by omega, by go_num, rfl⟩
      case measure => simp [intOf]; omega
    · go_wp2
      go_ret
      exact ⟨rfl, _, rfl⟩

theorem run_store_flt (w : World) (a : Addr) (x : Nat) : (store a (.float .f64 x) .plain).run Try.prog w = stored Try.prog w a (.float .f64 x) .plain := run_store Try.prog w a _ _ rfl

set_option maxHeartbeats 1000000 in
theorem zz17 (w : World) (so : Option Addr) (n c : Nat) (t f k : Value) :
    Calls Try.prog 17 #[.agg #[.slice so n c, t, f, k]] w fun e w' => e = .returned k ∧ Below w.heap.size w w' := by
  go_enter Try.func17, Try.ntmps17
  go_wp2
  go_ret
  exact ⟨rfl, (Below.refl _ _).alloc (Nat.le_refl _) _⟩

set_option maxHeartbeats 1000000 in
theorem f5_long (hs : Bool) (ao : Option Addr) (len cap : Nat) (o a t x : Int) (w : World) (hm : len ≤ maxLen) (hl : 4096 < len) {M : Nat → Mtc} (h : MIn w ao len M) :
    Calls Try.prog 5 #[.bool hs, .slice ao len cap, .int .i64 o, .int .i64 a, .int .i64 t, .int .i64 x] w fun e w' => e = .returned (.bool true) ∧ Below w.heap.size w w' := by
  have c12 : Hid (Calls Try.prog 12 #[.bool hs, .slice ao len cap, .int .i64 o, .int .i64 a, .int .i64 t, .int .i64 x] w fun e w' => RetBool e ∧ w' = w) := bytes12 hs ao len cap o a t x w hm h
  clear h hm
  go_enter Try.func5, Try.ntmps5
  go_wp2_with fail
  refine c12.out.mono ?_
  rintro e w' ⟨⟨r, rfl⟩, rfl⟩
  cases r
  all_goals
    go_wp2
    go_ret
    exact ⟨rfl, Below.refl _ _⟩

set_option maxRecDepth 10000 in
set_option maxHeartbeats 2000000 in
theorem f5_no (ao : Option Addr) (len cap : Nat) (o a t x : Int) (w : World) (hm : len ≤ maxLen) (hl : len ≤ 4096) {M : Nat → Mtc} (h : MIn w ao len M) :
    Calls Try.prog 5 #[.bool false, .slice ao len cap, .int .i64 o, .int .i64 a, .int .i64 t, .int .i64 x] w fun e w' => e = .returned (.bool true) ∧ Below w.heap.size w w' := by
  have c12 : Hid (Calls Try.prog 12 #[.bool false, .slice ao len cap, .int .i64 o, .int .i64 a, .int .i64 t, .int .i64 x] w fun e w' => RetBool e ∧ w' = w) := bytes12 false ao len cap o a t x w hm h
  have c13 : Hid (Calls Try.prog 13 #[.slice ao len cap] w fun e w' => RetBool e ∧ ∃ k, w' = w.drewN k) := mbytes ao len cap w hm h
  clear h hm
  go_enter Try.func5, Try.ntmps5
  go_wp2_with fail
  refine c12.out.mono ?_
  rintro e w' ⟨⟨r, rfl⟩, rfl⟩
  cases r
  · go_wp2
    go_ret
    exact ⟨rfl, Below.refl _ _⟩
  go_wp2_with fail
  refine c13.out.mono ?_
  rintro e w1 ⟨⟨r, rfl⟩, m, rfl⟩
  cases r
  · go_wp2
    go_ret
    exact ⟨rfl, below_drewN (Below.refl _ _) _⟩
  go_wp2_with fail
  refine (buildSel_no o a t).mono ?_
  rintro e w1 ⟨rfl, rfl⟩
  go_wp2_with fail
  refine (zzabs_nil _ x).mono ?_
  rintro e w2 ⟨S, rfl, hO⟩
  obtain ⟨hS, s0, s1, s2, s3⟩ := hO.out.2
  have HB : Hid (Below w'.heap.size w' w2) := (below_drewN (Below.refl _ _) m).trans hO.out.1
  clear hO
  have rsf := run_store_flt
  go_wp2_with fail
  refine (zz17 _ _ _ _ _ _ _).mono ?_
  rintro e w3 ⟨rfl, hb3⟩
  have l0 : w3.cell? ⟨w2.heap.size, 0, none⟩ = some (.slice none 0 0) := by rw [hb3.cell (p := ⟨w2.heap.size, 0, none⟩) (by simp)]; simp
  have HB3 : Hid (Below w'.heap.size w' w3) := (HB.out.alloc HB.out.size _).trans (hb3.mono (by have := HB.out.size; simp; omega))
  clear hb3
  go_wp2_with fail
  refine (same18 (r := fun _ => (ByteArray.empty, ByteArray.empty)) (fun i hi => by omega) (fun i hi => by omega) (by omega)).mono ?_
  rintro e w4 ⟨rfl, k4, rfl⟩
  go_wp2
  go_ret
  exact ⟨rfl, below_drewN HB3.out _⟩

set_option maxRecDepth 10000 in
set_option maxHeartbeats 2000000 in
theorem f5_yes (ao : Option Addr) (len cap : Nat) (o a t x : Int) (w : World) (hm : len ≤ maxLen) (hl : len ≤ 4096) {M : Nat → Mtc} (h : MIn w ao len M) (hnil : ao = none → len = 0 ∧ cap = 0) :
    Calls Try.prog 5 #[.bool true, .slice ao len cap, .int .i64 o, .int .i64 a, .int .i64 t, .int .i64 x] w fun e w' => e = .returned (.bool true) ∧ Below w.heap.size w w' := by
  have c12 : Hid (Calls Try.prog 12 #[.bool true, .slice ao len cap, .int .i64 o, .int .i64 a, .int .i64 t, .int .i64 x] w fun e w' => RetBool e ∧ w' = w) := bytes12 true ao len cap o a t x w hm h
  have c13 : Hid (Calls Try.prog 13 #[.slice ao len cap] w fun e w' => RetBool e ∧ ∃ k, w' = w.drewN k) := mbytes ao len cap w hm h
  have H : Hid (MIn w ao len M ∧ (ao = none → len = 0 ∧ cap = 0)) := ⟨h, hnil⟩
  clear h hm hnil
  go_enter Try.func5, Try.ntmps5
  go_wp2_with fail
  refine c12.out.mono ?_
  rintro e w' ⟨⟨r, rfl⟩, rfl⟩
  cases r
  · go_wp2
    go_ret
    exact ⟨rfl, Below.refl _ _⟩
  go_wp2_with fail
  refine c13.out.mono ?_
  rintro e w1 ⟨⟨r, rfl⟩, m, rfl⟩
  cases r
  · go_wp2
    go_ret
    exact ⟨rfl, below_drewN (Below.refl _ _) _⟩
  have HM1 : Hid (MIn (w'.drewN m) ao len M) := H.out.1.below (below_drewN (Below.refl _ _) m)
  go_wp2_with fail
  refine (buildSel_any o a t HM1.out (by omega) H.out.2).mono ?_
  rintro e w1 ⟨B, rfl, hS1⟩
  have HB1 : Hid (Below w'.heap.size w' w1) := (below_drewN (Below.refl _ _) m).trans hS1.out.2
  have HS1 : Hid (Sel w1 B len M) := hS1.out.1
  clear hS1 HM1
  go_wp2_with fail
  refine (zzabs_any x HS1.out (by omega)).mono ?_
  rintro e w2 ⟨S, rfl, hO⟩
  obtain ⟨so', n', cap', r', hE, hO2⟩ := hO.out
  have HE : Hid (EqR M len w1 w2 so' n' r' ∧ One w2 S so' n' cap' x) := ⟨hE, hO2⟩
  have HB2 : Hid (Below w'.heap.size w' w2) := HB1.out.trans (hE.2.2.2.1.mono HB1.out.size)
  clear hO hE hO2
  have HM2 : Hid (MIn w2 ao len M) := H.out.1.below HB2.out
  go_wp2_with fail
  refine (em_all HM2.out hl).mono ?_
  rintro e w3 ⟨so2, n2, sc2, r2, rfl, hR⟩
  have HF : Hid (n2 = n' ∧ LabRow w3 so' n' r' ∧ LabRow w3 so2 n' r' ∧ n' ≤ 1048576 ∧ One w3 S so' n' cap' x ∧ Below w'.heap.size w' w3) := by
    obtain ⟨a1, a2, a3, a4, a5⟩ := HE.out.1
    obtain ⟨b1, b2, b3, b4⟩ := hR.out
    have hm : ∀ s v, (∃ j, j < n' ∧ r' j = (s, v)) ↔ ∃ j, j < n2 ∧ r2 j = (s, v) := fun s v => by
      rw [a5, b4]
      constructor
      · rintro ⟨c1, c2⟩
        exact ⟨⟨c1, c2⟩, c2.1⟩
      · exact fun c => c.1
    obtain ⟨e1, e2⟩ := sorted_same a3 b2 (fun j hj => by
      obtain ⟨q, hq, e⟩ := (hm (r' j).1 (r' j).2).1 ⟨j, hj, rfl⟩; exact ⟨q, hq, e⟩) (fun j hj => by
      obtain ⟨q, hq, e⟩ := (hm (r2 j).1 (r2 j).2).2 ⟨j, hj, rfl⟩; exact ⟨q, hq, e⟩)
    refine ⟨e1.symm, a2.below b3, fun i hi => ?_, by omega, ?_, HB2.out.trans (b3.mono HB2.out.size)⟩
    · rw [e2 i hi]; exact b1.lab i (by omega)
    · obtain ⟨s0, s1, s2, s3, s4⟩ := HE.out.2
      have hsz := b3.size
      exact ⟨by omega, (b3.cell (p := ⟨S, 0, none⟩) s0).trans s1, (b3.cell (p := ⟨S, 1, none⟩) s0).trans s2, (b3.cell (p := ⟨S, 2, none⟩) s0).trans s3, (b3.cell (p := ⟨S, 3, none⟩) s0).trans s4⟩
  clear hR
  obtain ⟨hS, s0, s1, s2, s3⟩ := HF.out.2.2.2.2.1
  obtain rfl := HF.out.1
  have rsf := run_store_flt
  go_wp2_with fail
  refine (zz17 _ _ _ _ _ _ _).mono ?_
  rintro e w4 ⟨rfl, hb4⟩
  have l0 : w4.cell? ⟨w3.heap.size, 0, none⟩ = some (.slice so' n2 cap') := by rw [hb4.cell (p := ⟨w3.heap.size, 0, none⟩) (by simp)]; simp
  have HG : Hid (LabRow w4 so' n2 r' ∧ LabRow w4 so2 n2 r' ∧ Below w'.heap.size w' w4) := by
    obtain ⟨_, f2, f3, _, _, f6⟩ := HF.out
    have hb : Below w3.heap.size w3 w4 := ((Below.refl _ _).alloc (Nat.le_refl _) _).trans (hb4.mono (by simp))
    exact ⟨f2.below hb, f3.below hb, f6.trans (hb.mono f6.size)⟩
  clear hb4
  go_wp2_with fail
  refine (same18 HG.out.1 HG.out.2.1 HF.out.2.2.2.1).mono ?_
  rintro e w5 ⟨rfl, k5, rfl⟩
  go_wp2
  go_ret
  exact ⟨rfl, below_drewN HG.out.2.2 _⟩

theorem f5_any (hs : Bool) (ao : Option Addr) (len cap : Nat) (o a t x : Int) (w : World) (hm : len ≤ maxLen) {M : Nat → Mtc} (h : MIn w ao len M) (hnil : ao = none → len = 0 ∧ cap = 0) :
    Calls Try.prog 5 #[.bool hs, .slice ao len cap, .int .i64 o, .int .i64 a, .int .i64 t, .int .i64 x] w fun e w' => e = .returned (.bool true) ∧ Below w.heap.size w w' := by
  by_cases hl : 4096 < len
  · exact f5_long hs ao len cap o a t x w hm hl h
  · cases hs
    · exact f5_no ao len cap o a t x w hm (by omega) h
    · exact f5_yes ao len cap o a t x w hm (by omega) h hnil
end Go.Proofs.Qxb6615577a
