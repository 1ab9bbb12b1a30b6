/- A []Label that came in, opened. -/
import Derived.Test.Qxb6615577aCopy
import Derived.ProofKit
import Derived.OpenShut
import Derived.ChangeOld
import Derived.Below
import Derived.Deep.SlicePairs
namespace Go.Proofs.Qxb6615577a
open Go.ChangeShapes Go.WideShapes Go.ChangeAt Go.RowKit

theorem own : ownKnob Try.prog.godebug = none := by kernel_rfl
theorem laidOut : laidOutB Try.prog = true := by kernel_rfl

theorem open_labels {H : Type} {enc : TypeId × Value → H} {W : World} {ao : Option Addr} {len cap fuel : Nat} {x : DataW H × List MemPlace}
    (h : DataW.trod enc Try.prog W 0 (fun _ => true) true fuel 22 [.slice ao len cap] = some x) :
    len ≤ maxLen ∧ LabIn W ao len ∧ (ao = none → len = 0 ∧ cap = 0) := by
  rcases Deep.open_slice_pairs Try.underlying22 Try.underlying58 (by kernel_rfl) rfl rfl (by kernel_rfl) (by kernel_rfl) h with ⟨hcs, _⟩ | ⟨a, l, c, m, n, V0, V1, D0, D1, P0, P1, hcs, _, hl, hm, hmm, _, hx⟩
  · simp only [List.cons.injEq, Value.slice.injEq, and_true] at hcs
    obtain ⟨rfl, rfl, rfl⟩ := hcs
    exact ⟨Nat.zero_le _, Or.inl rfl, fun _ => ⟨rfl, rfl⟩⟩
  · simp only [List.cons.injEq, Value.slice.injEq, and_true] at hcs
    obtain ⟨rfl, rfl, rfl⟩ := hcs
    refine ⟨by omega, ?_, fun h => by cases h⟩
    by_cases h0 : len = 0
    · exact Or.inl h0
    right
    simp only [if_true] at hmm
    subst hmm
    obtain ⟨b, off, spot⟩ := a
    have hspot : spot = none := by simpa [Addr.add] using World.cell?_spot (hx 0 (by omega)).1
    subst hspot
    refine ⟨b, off, fun i => match V0 i with | .string s => s | _ => ByteArray.empty, fun i => match V1 i with | .string s => s | _ => ByteArray.empty, rfl, fun i hi => ?_⟩
    obtain ⟨x0, x1, t0, t1⟩ := hx i (by omega)
    obtain ⟨s0, e0, _, z0⟩ := DataW.trod_string Try.underlying9 t0
    obtain ⟨s1, e1, _, z1⟩ := DataW.trod_string Try.underlying9 t1
    simp only [List.cons.injEq, and_true] at e0 e1
    rw [e0] at x0
    rw [e1] at x1
    simp only [e0, e1]
    rw [Addr.add_lit] at x0 x1
    exact ⟨x0, by rw [Nat.add_assoc]; exact x1, z0, z1⟩
end Go.Proofs.Qxb6615577a
