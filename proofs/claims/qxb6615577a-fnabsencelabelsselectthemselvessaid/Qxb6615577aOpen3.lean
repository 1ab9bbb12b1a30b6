/- A []Matcher that came in, opened. -/
import Derived.Test.Qxb6615577aEqP
import Derived.Test.Qxb6615577aOpen
import Derived.Deep.Strs
namespace Go.Proofs.Qxb6615577a
open Go.ChangeShapes Go.WideShapes Go.ChangeAt Go.RowKit Go.Deep

/-- A row of matchers, as it lies in memory. -/
def MIn (w : World) (ao : Option Addr) (n : Nat) (M : Nat → Mtc) : Prop := n = 0 ∨ ∃ b off, ao = some ⟨b, off, none⟩ ∧ b < w.heap.size ∧ ∀ i, i < n →
  w.cell? ⟨b, off + i * 3, none⟩ = some (.int .i64 (M i).ty) ∧ w.cell? ⟨b, off + i * 3 + 1, none⟩ = some (.string (M i).nm) ∧ w.cell? ⟨b, off + i * 3 + 2, none⟩ = some (.string (M i).vl) ∧ (M i).nm.size ≤ maxLen ∧ (M i).vl.size ≤ maxLen

theorem MIn.below {w w' : World} {ao : Option Addr} {n : Nat} {M : Nat → Mtc} (h : MIn w ao n M) (hb : Below w.heap.size w w') : MIn w' ao n M := by
  rcases h with h | ⟨b, off, h0, h1, h2⟩
  · exact Or.inl h
  · refine Or.inr ⟨b, off, h0, by have := hb.size; omega, fun i hi => ?_⟩
    obtain ⟨c0, c1, c2, r⟩ := h2 i hi
    exact ⟨(hb.cell (p := ⟨b, _, none⟩) h1).trans c0, (hb.cell (p := ⟨b, _, none⟩) h1).trans c1, (hb.cell (p := ⟨b, _, none⟩) h1).trans c2, r⟩

theorem choose_mtc {Q : Nat → Mtc → Prop} {n : Nat} (h : ∀ i, i < n → ∃ m, Q i m) : ∃ M : Nat → Mtc, ∀ i, i < n → Q i (M i) :=
  ⟨fun i => if hi : i < n then (h i hi).choose else ⟨0, ByteArray.empty, ByteArray.empty⟩, fun i hi => by simp only [hi, dif_pos]; exact (h i hi).choose_spec⟩

theorem len_three {α : Type} : ∀ {l : List α}, l.length = 3 → ∃ a b c, l = [a, b, c]
  | [a, b, c], _ => ⟨a, b, c, rfl⟩

theorem open_matchers {H : Type} {enc : TypeId × Value → H} {W : World} {ao : Option Addr} {len cap fuel : Nat} {x : DataW H × List MemPlace}
    (h : DataW.trod enc Try.prog W 0 (fun _ => true) true fuel 32 [.slice ao len cap] = some x) :
    len ≤ maxLen ∧ (∃ M, MIn W ao len M) ∧ (ao = none → len = 0 ∧ cap = 0) := by
  rcases open_slice Try.underlying32 h with ⟨hcs, _⟩ | ⟨a, l, c, m, n, D, Pl, hcs, hb, hl, hm, hmm, _, hx⟩
  · simp only [List.cons.injEq, Value.slice.injEq, and_true] at hcs
    obtain ⟨rfl, rfl, rfl⟩ := hcs
    exact ⟨Nat.zero_le _, ⟨fun _ => ⟨0, ByteArray.empty, ByteArray.empty⟩, Or.inl rfl⟩, fun _ => ⟨rfl, rfl⟩⟩
  · simp only [List.cons.injEq, Value.slice.injEq, and_true] at hcs
    obtain ⟨rfl, rfl, rfl⟩ := hcs
    refine ⟨by omega, ?_, fun h => by cases h⟩
    by_cases h0 : len = 0
    · exact ⟨fun _ => ⟨0, ByteArray.empty, ByteArray.empty⟩, Or.inl h0⟩
    simp only [if_true] at hmm
    subst hmm
    have each : ∀ i, i < len → ∃ q : Mtc, W.cell? (a.add (i * 3)) = some (.int .i64 q.ty) ∧ W.cell? (a.add (i * 3 + 1)) = some (.string q.nm) ∧ W.cell? (a.add (i * 3 + 2)) = some (.string q.vl) ∧ q.nm.size ≤ maxLen ∧ q.vl.size ≤ maxLen := by
      intro i hi
      obtain ⟨cs', h1, h2⟩ := hx i (by omega)
      have ce : Try.prog.cellsOf 56 = 3 := by kernel_rfl
      rw [ce] at h1
      obtain ⟨_, hlen, hcell⟩ := World.cells?_some h1
      obtain ⟨y0, y1, y2, k, _, _, t0, t1, t2⟩ := trod_struct3 Try.underlying56 h2
      obtain ⟨v0, v1, v2, rfl⟩ := len_three hlen
      have c3 : Try.prog.cellsOf 3 = 1 := by kernel_rfl
      have c9 : Try.prog.cellsOf 9 = 1 := by kernel_rfl
      simp [c3, c9] at t0 t1 t2
      obtain ⟨s0, e0, _⟩ := DataW.trod_int Try.underlying3 t0
      obtain ⟨s1, e1, _, z1⟩ := DataW.trod_string Try.underlying9 t1
      obtain ⟨s2, e2, _, z2⟩ := DataW.trod_string Try.underlying9 t2
      simp only [List.cons.injEq, and_true] at e0 e1 e2
      have d0 := hcell 0 (by omega)
      have d1 := hcell 1 (by omega)
      have d2 := hcell 2 (by omega)
      rw [add_add] at d0 d1 d2
      refine ⟨⟨s0, s1, s2⟩, ?_, ?_, ?_, z1, z2⟩
      · rw [← e0]; simpa using d0
      · rw [← e1]; simpa using d1
      · rw [← e2]; simpa using d2
    obtain ⟨M, hM⟩ := choose_mtc each
    obtain ⟨b, off, spot⟩ := a
    have hspot : spot = none := by simpa [Addr.add] using World.cell?_spot (hM 0 (by omega)).1
    subst hspot
    have hlt : b < W.heap.size := by
      have := (hM 0 (by omega)).1
      rw [Addr.add_lit] at this
      exact World.block_lt_of_cell? _ _ this
    refine ⟨M, Or.inr ⟨b, off, rfl, hlt, fun i hi => ?_⟩⟩
    obtain ⟨c0, c1, c2, r⟩ := hM i hi
    rw [Addr.add_lit] at c0 c1 c2
    exact ⟨c0, by rw [Nat.add_assoc]; exact c1, by rw [Nat.add_assoc]; exact c2, r⟩
end Go.Proofs.Qxb6615577a
