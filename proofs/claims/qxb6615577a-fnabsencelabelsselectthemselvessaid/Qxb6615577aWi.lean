/- Labels.Without (29). -/
import Derived.Test.Qxb6615577aFil
namespace Go.Proofs.Qxb6615577a
open Go.RowKit

set_option maxRecDepth 10000 in
set_option maxHeartbeats 1000000 in
theorem filter_nil {w : World} {N cap : Nat} {so : Option Addr} {co : Option Addr} {m cc : Nat} {f : Nat → ByteArray} (h : Kp w N co m cc f) (hm : m ≤ 1048576) :
    Calls Try.prog 32 #[.slice so 0 cap, .func (.func 33) #[] #[.pointer (some ⟨N, 0, none⟩)]] w fun e w' => e = .returned (.slice so 0 cap) ∧ Below w.heap.size w w' := by
  have H : Hid (Kp (w.alloc (.cells #[.func (.func 33) #[] #[.pointer (some ⟨N, 0, none⟩)]] 77)) N co m cc f) := h.alloc _
  clear h
  go_enter Try.func32, Try.ntmps32
  go_wp2_with fail
  refine (indexFunc_any (r := fun _ => (ByteArray.empty, ByteArray.empty)) (n := 0) H.out (by simp) (by simp) hm (by omega) (fun i hi => by omega)).mono ?_
  rintro e w1 ⟨q, rfl, hq⟩
  have HB : Hid (Below w.heap.size w w1) := ((Below.refl _ _).alloc (Nat.le_refl _) _).trans (hq.out.1.mono (by simp))
  rcases hq.out.2 with ⟨rfl, _⟩ | ⟨i, hi, _⟩
  · clear hq
    go_wp2
    go_ret
    exact ⟨rfl, HB.out⟩
  · omega

/-- The names' row. -/
structure Nm (w : World) (co : Option Addr) (m : Nat) (f : Nat → ByteArray) : Prop where
  row : StrIn w co m f
  lt : ∀ C, co = some ⟨C, 0, none⟩ → C < w.heap.size

theorem Nm.kp {w : World} {co : Option Addr} {m : Nat} {f : Nat → ByteArray} (h : Nm w co m f) (cc : Nat) : Kp (w.alloc (.cells #[.slice co m cc] 69)) w.heap.size co m cc f :=
  ⟨by simp, by simp, fun i hi => by obtain ⟨C, e, hc⟩ := h.row i hi; exact ⟨C, e, (((Below.refl _ _).alloc (Nat.le_refl _) _).cell (p := ⟨C, i, none⟩) (h.lt C e)).trans hc⟩, fun C e => by have := h.lt C e; simp; omega⟩

set_option maxHeartbeats 1000000 in
theorem without_any {w : World} {B n cap : Nat} {co : Option Addr} {m cc : Nat} {f : Nat → ByteArray} {r : Nat → Lab} (h : Nm w co m f) (hm : m ≤ 1048576) (h1 : 1 ≤ n) (hn : n ≤ 1048576) (hcap : n ≤ cap) (hr : Row w B n r) (hs : SP.Sorted ltN 0 n r) :
    Calls Try.prog 29 #[.slice (some ⟨B, 0, none⟩) n cap, .slice co m cc] w fun e w' => ∃ so' n' cap' r', e = .returned (.slice so' n' cap') ∧ Hid (FilR f m n r w w' so' n' r') := by
  have H : Hid (Kp (w.alloc (.cells #[.slice co m cc] 69)) w.heap.size co m cc f ∧ Row (w.alloc (.cells #[.slice co m cc] 69)) B n r ∧ SP.Sorted ltN 0 n r) := ⟨h.kp cc, hr.alloc _, hs⟩
  clear h hr hs
  go_enter Try.func29, Try.ntmps29
  go_wp2_with fail
  refine (filter_any H.out.1 hm h1 hn hcap H.out.2.1 H.out.2.2).mono ?_
  rintro e w1 ⟨so', n', cap', r', rfl, hf⟩
  have HF : Hid (FilR f m n r w w1 so' n' r') := by
    obtain ⟨a1, a2, a3, a4, a5, a6⟩ := hf.out
    exact ⟨a1, a2, a3, ((Below.refl _ _).alloc (Nat.le_refl _) _).trans (a4.mono (by simp)), a5, a6⟩
  clear hf
  go_wp2
  go_ret
  exact ⟨_, _, _, _, rfl, HF⟩

set_option maxHeartbeats 1000000 in
theorem without_nil {w : World} {cap : Nat} {so co : Option Addr} {m cc : Nat} {f : Nat → ByteArray} (h : Nm w co m f) (hm : m ≤ 1048576) :
    Calls Try.prog 29 #[.slice so 0 cap, .slice co m cc] w fun e w' => e = .returned (.slice so 0 cap) ∧ Below w.heap.size w w' := by
  have H : Hid (Kp (w.alloc (.cells #[.slice co m cc] 69)) w.heap.size co m cc f) := h.kp cc
  clear h
  go_enter Try.func29, Try.ntmps29
  go_wp2_with fail
  refine (filter_nil H.out hm).mono ?_
  rintro e w1 ⟨rfl, hb⟩
  have HB : Hid (Below w.heap.size w w1) := ((Below.refl _ _).alloc (Nat.le_refl _) _).trans (hb.mono (by simp))
  clear hb
  go_wp2
  go_ret
  exact ⟨rfl, HB.out⟩
end Go.Proofs.Qxb6615577a
