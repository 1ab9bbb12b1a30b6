/- FnUnsignedMatchesModel (3): the walk. -/
import Derived.Test.Qxb6615880aModAny
namespace Go.Proofs.Qxb6615880a
open Go.RowKit

/-- Some bool is handed back. -/
def RetBool (e : Ending) : Prop := ∃ r, e = .returned (.bool r)

set_option maxHeartbeats 400000 in
theorem bytes7 (s : ByteArray) (w : World) (hs : s.size ≤ maxLen) : Calls Try.prog 7 #[.string s] w fun e w' => RetBool e ∧ w = w' := by
  unfold maxLen at hs
  by_cases h : (1048576 : Int) < s.size
  all_goals
    go_enter Try.func7, Try.ntmps7
    go_wp2
    go_ret
    exact ⟨⟨_, rfl⟩, rfl⟩

set_option maxRecDepth 10000 in
set_option maxHeartbeats 1000000 in
theorem f3_any (s : ByteArray) (w : World) (hs : s.size ≤ maxLen) : Calls Try.prog 3 #[.string s] w fun e w' => e = .returned (.bool true) ∧ Below w.heap.size w w' := by
  have HM : Hid (s.size ≤ maxLen) := hs
  unfold maxLen at hs
  by_cases h : (1048576 : Int) < s.size
  · go_enter Try.func3, Try.ntmps3
    go_wp2_with fail
    refine (bytes7 _ _ HM.out).mono ?_
    rintro e w' ⟨⟨r, rfl⟩, rfl⟩
    cases r
    all_goals
      go_wp2
      go_ret
      exact ⟨rfl, Below.refl _ _⟩
  · go_enter Try.func3, Try.ntmps3
    go_wp2_with fail
    refine (bytes7 _ _ HM.out).mono ?_
    rintro e w' ⟨⟨r, rfl⟩, rfl⟩
    cases r
    · go_wp2
      go_ret
      exact ⟨rfl, Below.refl _ _⟩
    go_wp2_with fail
    refine (uns_any _ _ HM.out).mono ?_
    rintro e w1 ⟨he, hb⟩
    unfold RetF at he
    subst he
    have HB : Hid (Below w.heap.size w w1) := hb
    have hz : w.heap.size ≤ w1.heap.size := hb.size
    clear hb
    go_wp2_with fail
    refine (mod_any _ _ HM.out).mono ?_
    rintro e w2 ⟨he, n, rfl⟩
    unfold RetM at he
    subst he
    go_wp2
    go_ret
    exact ⟨rfl, below_drewN (HB.out.alloc hz _) _⟩
end Go.Proofs.Qxb6615880a
