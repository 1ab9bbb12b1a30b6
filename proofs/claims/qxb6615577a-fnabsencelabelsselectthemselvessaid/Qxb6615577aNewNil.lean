/- labels.New (28) at no label. -/
import Derived.Test.Qxb6615577aNew
namespace Go.Proofs.Qxb6615577a
open Go.RowKit

theorem append_nil {w : World} (ty : TypeId) : (Builtin.append_ #[26, 25] ty #[.slice none 0 0, .slice none 0 0]).run Try.prog w = .ok (.slice none 0 0) w := by
  obtain ⟨i0, hi0, _, _, _⟩ := info_parts Try.info31
  simp [Builtin.append_, run_underlying Try.underlying26, run_underlying Try.underlying25, sizeOf, typeInfo, hi0, Builtin.lenOf, Builtin.firstCells]

set_option maxRecDepth 10000 in
set_option maxHeartbeats 1000000 in
theorem new_nil (w : World) : Calls Try.prog 28 #[.slice none 0 0] w fun e w' => e = .returned (.slice none 0 0) ∧ Below w.heap.size w w' := by
  have hap := append_nil (w := w) 26
  go_enter Try.func28, Try.ntmps28
  go_wp2_with (at_builtin; refine Lib.wpList_append_run _ rfl _ _ _ _ rfl _ _ rfl rfl _ _ hap ?_)
  refine (sliceStable_tiny (by omega)).mono ?_
  rintro e' w2 ⟨rfl, ho⟩
  have HB : Hid (Below w.heap.size w w2) := ((Below.refl _ _).alloc (Nat.le_refl _) _).trans ⟨(ho 0).os, (ho 0).tape, (ho 0).output, (ho 0).size, fun k hk => (ho (k + 1)).block k (by simp; omega) (by omega)⟩
  have cs : w2.cell? ⟨w.heap.size, 0, none⟩ = some (.slice none 0 0) := by
    rw [(ho (w.heap.size + 1)).cell (by simp) (by omega)]; simp
  clear ho
  go_wp2_with fail
  go_loopw [4, 17] (fun x y wr => x = .slice none 0 0 ∧ y = .int .i64 0 ∧ w2 = wr) (fun _ _ _ => 0)
  case atStart => exact ⟨rfl, rfl, rfl⟩
  case round =>
    obtain ⟨rfl, rfl, rfl⟩ := hrel
    go_wp2
    go_ret
    exact ⟨rfl, HB.out⟩
end Go.Proofs.Qxb6615577a
