/- SliceStable (30): the contract. -/
import Derived.Test.Qxb6615577aSortU
namespace Go.Proofs.Qxb6615577a
open Go.RowKit Go.Extern Go.Extern.Rtype Go.Lib

theorem ext35 (p : Option Addr) (n c : Nat) (w : World) : (callFunc 35 #[.iface 26 (.slice p n c)]).run Try.prog w = .ok (.value (.agg #[.pointer (some ⟨0, 26, none⟩), .pointer (some ⟨w.heap.size, 0, none⟩), .int .u64 151])) (w.alloc (.cells #[.slice p n c] 26)) := by
  rw [run_callFunc_extern Try.func35 (by kernel_rfl) (by kernel_rfl) (by kernel_rfl) (e := fun args => Extern.ReflectliteValue.unpack (args.getD 0 (.tuple #[]))) (by kernel_rfl)]
  have h := valueOf26 p n c w
  rw [show Sem.run Try.prog ((fun args : Array Value => Extern.ReflectliteValue.unpack (args.getD 0 (.tuple #[]))) #[.iface 26 (.slice p n c)]) w = _ from h]
  rfl
theorem ext36 (p : Option Addr) (n c : Nat) (w : World) (v : Value) (h : (ReflectliteSwapper.swapper "internal/reflectlite" (ReflectliteValue.valueError "Swapper") #[.iface 26 (.slice p n c)]).run Try.prog w = .ok v w) : (callFunc 36 #[.iface 26 (.slice p n c)]).run Try.prog w = .ok (.value v) w := by
  rw [run_callFunc_extern Try.func36 (by kernel_rfl) (by kernel_rfl) (by kernel_rfl) (e := Extern.ReflectliteSwapper.swapper "internal/reflectlite" (Extern.ReflectliteValue.valueError "Swapper")) (by kernel_rfl), h]
  rfl
theorem ext38 (a : Addr) (p : Option Addr) (n c : Nat) (w : World) (ha : w.cell? a = some (.slice p n c)) : (callFunc 38 #[.agg #[.pointer (some ⟨0, 26, none⟩), .pointer (some a), .int .u64 151]]).run Try.prog w = .ok (.value (.int .i64 n)) w := by
  rw [run_callFunc_extern Try.func38 (by kernel_rfl) (by kernel_rfl) (by kernel_rfl) (e := Extern.ReflectliteValue.method (Extern.ReflectliteValue.valueError "reflectlite.Value.Len" 0) Extern.ReflectliteValue.len) (by kernel_rfl), len26 a p n c w ha]
  rfl

/-- The world in which stable_func is called. -/
def stW (w : World) (p : Option Addr) (n c : Nat) : World :=
  (w.alloc (.cells #[.slice p n c] 26)).alloc (.cells #[.pointer (some ⟨0, 26, none⟩), .pointer (some ⟨w.heap.size, 0, none⟩), .int .u64 151] 81)

set_option maxRecDepth 100000 in
set_option maxHeartbeats 1000000 in
theorem sliceStable_of {w : World} {p : Option Addr} {n c S : Nat} {g : Fn} {gb : Array Value} {R : World → Prop}
    (hs : ∀ w, (callFunc 36 #[.iface 26 (.slice p n c)]).run Try.prog w = .ok (.value (.func g #[] gb)) w)
    (hp : Hid (Calls Try.prog 37 #[.agg #[.func (.func 31) #[] #[.pointer (some ⟨S, 0, none⟩)], .func g #[] gb], .int .i64 (n : Int)] (stW w p n c) fun e w' => e = .returned (.tuple #[]) ∧ R w')) :
    Calls Try.prog 30 #[.iface 26 (.slice p n c), .func (.func 31) #[] #[.pointer (some ⟨S, 0, none⟩)]] w fun e w' => e = .returned (.tuple #[]) ∧ R w' := by
  have h35 := ext35 p n c w
  have h38 := ext38 ⟨w.heap.size, 0, none⟩ p n c ((w.alloc (.cells #[.slice p n c] 26)).alloc (.cells #[.pointer (some ⟨0, 26, none⟩), .pointer (some ⟨w.heap.size, 0, none⟩), .int .u64 151] 81)) (by simp)
  have h36 := hs ((w.alloc (.cells #[.slice p n c] 26)).alloc (.cells #[.pointer (some ⟨0, 26, none⟩), .pointer (some ⟨w.heap.size, 0, none⟩), .int .u64 151] 81))
  clear hs
  go_enter Try.func30, Try.ntmps30
  go_wp2_with fail
  refine Calls.mono hp.out ?_
  rintro e' w' ⟨rfl, hR⟩
  go_wp2
  go_end0
  exact ⟨rfl, hR⟩

/-- SLICESTABLE at two or more. -/
theorem sliceStable_big {w : World} {blk n cap S : Nat} {d : Nat → Lab} (h2 : 2 ≤ n) (hn : n ≤ 1048576) (h : St w blk n cap S d) (hD : SP.Dist ltN n d) :
    Calls Try.prog 30 #[.iface 26 (.slice (some ⟨blk, 0, none⟩) n cap), .func (.func 31) #[] #[.pointer (some ⟨S, 0, none⟩)]] w fun e w' => e = .returned (.tuple #[]) ∧ ∃ d', St w' blk n cap S d' ∧ SP.PermOn 0 n d d' ∧ SP.Sorted ltN 0 n d' ∧ Oth blk w w' := by
  refine sliceStable_of (fun w => ext36 _ _ _ w _ (swapper_big _ n cap h2 w)) ?_
  refine Calls.mono (stable_any (w := stW w (some ⟨blk, 0, none⟩) n cap) hn ((h.alloc _).alloc _) hD) ?_
  rintro e w' ⟨he, d', h1, h2, h3, h4⟩
  exact ⟨he, d', h1, h2, h3, (((Oth.refl _ _).alloc _).alloc _).trans h4⟩

/-- SLICESTABLE at none or one. -/
theorem sliceStable_tiny {w : World} {p : Option Addr} {n cap S : Nat} (hn : n ≤ 1) :
    Calls Try.prog 30 #[.iface 26 (.slice p n cap), .func (.func 31) #[] #[.pointer (some ⟨S, 0, none⟩)]] w fun e w' => e = .returned (.tuple #[]) ∧ ∀ blk, Oth blk w w' := by
  obtain ⟨f, hf⟩ := swapper_tiny p n cap hn
  refine sliceStable_of (fun w => ext36 _ _ _ w _ (hf w)) ?_
  refine Calls.mono (stable_tiny (S := S) hn (stW w p n cap)) ?_
  rintro e w' ⟨he, rfl⟩
  exact ⟨he, fun blk => ((((Oth.refl _ _).alloc _).alloc _).alloc _).alloc _⟩
end Go.Proofs.Qxb6615577a
