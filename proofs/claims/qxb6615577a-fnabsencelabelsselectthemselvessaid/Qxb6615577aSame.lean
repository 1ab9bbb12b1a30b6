/- sameSlice: its contracts; the bounds' own functions. -/
import Derived.Test.Qxb6615577aRows
import Derived.WalkKit
import Derived.WalkSpells
import Derived.WalkLawsBesides
import Derived.Deep.QuietTactic
import Derived.BigQuiet
import Derived.LaidEqlPtr
namespace Go.Proofs.Qxb6615577a
open Go.RowKit

theorem Try.info31 : (Try.prog.info? 31).map (fun i => (i.zero, i.size, i.bytes)) = some (some (.agg #[.string ByteArray.empty, .string ByteArray.empty]), 2, 32) := by kernel_rfl

set_option maxHeartbeats 400000 in
theorem same_ne (ao bo : Option Addr) (n m c d : Nat) (w : World) (h : ((n : Int) == (m : Int)) = false) :
    Calls Try.prog 24 #[.slice ao n c, .slice bo m d] w fun e w' => e = .returned (.bool false) ∧ ∃ k, w' = w.drewN k := by
  go_enter Try.func24, Try.ntmps24
  go_wp2
  go_quiet (fail)
  go_wp2
  go_ret
  exact ⟨rfl, _, rfl⟩

set_option maxHeartbeats 400000 in
theorem same_zero (ao bo : Option Addr) (c d : Nat) (w : World) :
    Calls Try.prog 24 #[.slice ao 0 c, .slice bo 0 d] w fun e w' => e = .returned (.bool true) ∧ ∃ k, w' = w.drewN k := by
  go_enter Try.func24, Try.ntmps24
  go_wp2
  go_quiet (fail)
  go_wp2
  go_ret
  exact ⟨rfl, _, rfl⟩

set_option maxHeartbeats 400000 in
theorem same_eq (b1 o1 : Nat) (n c d : Nat) (w : World) (h : (0 : Int) < (n : Int)) :
    Calls Try.prog 24 #[.slice (some ⟨b1, o1, none⟩) n c, .slice (some ⟨b1, o1, none⟩) n d] w fun e w' => e = .returned (.bool true) ∧ ∃ k, w' = w.drewN k := by
  have h1 : ((n : Int) == (n : Int)) = true := by simp
  have h2 : ((n : Int) == 0) = false := by simp; omega
  have h3 : 0 < n := by omega
  obtain ⟨i0, hi, _, hz1, _⟩ := info_parts Try.info31
  have hp := fun (wx : World) => run_eql_ptr_same (P := Try.prog) wx (tp := 66) (te := 31) ⟨b1, o1, none⟩ Try.underlying66 hi
  go_enter Try.func24, Try.ntmps24
  go_wp2
  go_quiet (fail)
  go_wp2
  go_ret
  exact ⟨rfl, _, rfl⟩

set_option maxHeartbeats 400000 in
theorem same_other (b1 o1 b2 o2 : Nat) (n c d : Nat) (w : World) (h : (0 : Int) < (n : Int)) (hne : b1 ≠ b2 ∨ o1 ≠ o2) (ca cb : Array Value) (ta tb : TypeId)
    (ha : w.heap[b1]? = some (.cells ca ta (0, 0))) (hb : w.heap[b2]? = some (.cells cb tb (0, 0))) :
    Calls Try.prog 24 #[.slice (some ⟨b1, o1, none⟩) n c, .slice (some ⟨b2, o2, none⟩) n d] w fun e w' => e = .returned (.bool false) ∧ ∃ k, w' = w.drewN k := by
  have h1 : ((n : Int) == (n : Int)) = true := by simp
  have h2 : ((n : Int) == 0) = false := by simp; omega
  have h3 : 0 < n := by omega
  obtain ⟨i0, hi, _, hz1, _⟩ := info_parts Try.info31
  have hp := fun (k : Nat) => run_eql_ptr_other (P := Try.prog) (w.drewN k) (tp := 66) (te := 31) (a := ⟨b1, o1, none⟩) (b := ⟨b2, o2, none⟩) Try.underlying66 hi (by omega) (by intro e; simp at e; omega) (by simpa using ha) (by simpa using hb)
  clear hne ha hb
  go_enter Try.func24, Try.ntmps24
  go_wp2
  go_quiet (fail)
  go_wp2
  go_ret
  exact ⟨rfl, _, rfl⟩
end Go.Proofs.Qxb6615577a
