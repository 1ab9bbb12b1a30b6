/- SliceStable (30): the contract, at Labels (type 26, a named slice of type 31). -/
import Derived.Test.Qxb6615577aSortT
import Derived.Lib.ReflectliteSlice
namespace Go.Proofs.Qxb6615577a
open Go.RowKit Go.Extern Go.Extern.Rtype Go.Lib

theorem kind26 : ∀ w, (kind 26).run Try.prog w = .ok 23 w := fun _ => by kernel_rfl
theorem kind31 : ∀ w, (kind 31).run Try.prog w = .ok 25 w := fun _ => by kernel_rfl
theorem elem26 : ∀ w, (elem? 26).run Try.prog w = .ok (some 31) w := fun _ => by kernel_rfl
theorem packed26 : Try.prog.packed 26 = false := by kernel_rfl

theorem under26 : ∃ x : TypeId × TypeInfo, (∀ w, (under 26).run Try.prog w = .ok x w) ∧ x.2.desc = .slice 31 := by
  have h26 : (Try.prog.info? 26).bind (fun i => match i.desc with | .named _ u => some u | _ => none) = some 25 := by kernel_rfl
  have h25 : (Try.prog.info? 25).map (·.desc) = some (.slice 31) := by kernel_rfl
  obtain ⟨i, hi, hd⟩ := Option.map_eq_some_iff.1 h25
  obtain ⟨j, hj, hj2⟩ := Option.bind_eq_some_iff.1 h26
  refine ⟨(25, i), fun w => ?_, hd⟩
  unfold under
  simp only [Sem.run_bind, rl_info 26 j hj, Result.andThen]
  split at hj2
  · rename_i n u hn
    cases hj2
    simp [hn, rl_info 25 i hi, Result.andThen]
  · cases hj2

theorem valueOf26 (p : Option Addr) (n c : Nat) (w : World) :
    (ReflectliteValue.unpack (.iface 26 (.slice p n c))).run Try.prog w = .ok (.agg #[.pointer (some ⟨0, 26, none⟩), .pointer (some ⟨w.heap.size, 0, none⟩), .int .u64 151]) (w.alloc (.cells #[.slice p n c] 26)) := by
  simp [ReflectliteValue.unpack, ReflectliteValue.mk, newVar, newRow, handle, kind26, Result.andThen, Value.cells, ReflectliteValue.flagIndir, typeHandle]

theorem len26 (a : Addr) (p : Option Addr) (n c : Nat) (w : World) (ha : w.cell? a = some (.slice p n c)) :
    (ReflectliteValue.method (ReflectliteValue.valueError "reflectlite.Value.Len" 0) ReflectliteValue.len #[.agg #[.pointer (some ⟨0, 26, none⟩), .pointer (some a), .int .u64 151]]).run Try.prog w = .ok (.int .i64 n) w := by
  have hp := run_parts (P := Try.prog) 26 a packed26 w
  have hh : typeHandle Try.prog 26 = .pointer (some ⟨0, 26, none⟩) := by kernel_rfl
  rw [hh] at hp
  have hu : ∀ w, (isAgg 26).run Try.prog w = .ok false w := fun _ => by kernel_rfl
  obtain ⟨x, hun, hd⟩ := under26
  have hul : ∀ w, (underlying 26).run Try.prog w = .ok (.slice 31) w := fun _ => by kernel_rfl
  rw [rl_method]
  simp only [Sem.run_bind, hp, Result.andThen]
  simp [ReflectliteValue.len, hun, hd, loadVar, hu, ha, Builtin.len_, goInt, Result.andThen, hul]

theorem swapK {n : Nat} (hn : 2 ≤ n) (ie : TypeInfo) (h : ie.hasPointers = true) (hb : ie.bytes = 32) : swapperK n ie 25 = 9 := by
  unfold swapperK
  rw [if_neg (by simp; omega), if_neg (by simp; omega)]
  simp [h, hb]

theorem info31 : ∃ ie, Try.prog.info? 31 = some ie ∧ ie.hasPointers = true ∧ ie.bytes = 32 := by
  have h : (Try.prog.info? 31).map (fun i => (i.hasPointers, i.bytes)) = some (true, 32) := by kernel_rfl
  obtain ⟨i, hi, hd⟩ := Option.map_eq_some_iff.1 h
  simp only [Prod.mk.injEq] at hd
  exact ⟨i, hi, hd.1, hd.2⟩

theorem find9 : Try.prog.funcs.findIdx? (·.name == "internal/reflectlite" ++ ".Swapper$" ++ toString 9) = some 50 := by kernel_rfl
theorem find1 : Try.prog.funcs.findIdx? (·.name == "internal/reflectlite" ++ ".Swapper$" ++ toString 1) = some 42 := by kernel_rfl
theorem find2 : Try.prog.funcs.findIdx? (·.name == "internal/reflectlite" ++ ".Swapper$" ++ toString 2) = some 43 := by kernel_rfl

theorem swapper_at (p : Option Addr) (n c f : Nat) (ie : TypeInfo) (hie : Try.prog.info? 31 = some ie) (hf : Try.prog.funcs.findIdx? (·.name == "internal/reflectlite" ++ ".Swapper$" ++ toString (swapperK n ie 25)) = some f) (w : World) :
    (ReflectliteSwapper.swapper "internal/reflectlite" (ReflectliteValue.valueError "Swapper") #[.iface 26 (.slice p n c)]).run Try.prog w
      = .ok (.func (.func f) #[] (if swapperK n ie 25 ≤ 2 then #[] else #[.slice p n c, .pointer (some ⟨0, 31, none⟩)])) w := by
  rw [rl_swapper]
  simp only [Sem.run_bind, elem26, Result.andThen, rl_info 31 ie hie, kind31, handle, Sem.run_pure]
  change Sem.run Try.prog (ReflectliteSwapper.literal "internal/reflectlite" (swapperK n ie 25) (if swapperK n ie 25 ≤ 2 then #[] else #[.slice p n c, typeHandle Try.prog 31])) w = _
  rw [Try.handle31]
  simp at hf
  simp [ReflectliteSwapper.literal, hf, Result.andThen]

theorem swapper_big (p : Option Addr) (n c : Nat) (hn : 2 ≤ n) (w : World) :
    (ReflectliteSwapper.swapper "internal/reflectlite" (ReflectliteValue.valueError "Swapper") #[.iface 26 (.slice p n c)]).run Try.prog w = .ok (.func (.func 50) #[] #[.slice p n c, .pointer (some ⟨0, 31, none⟩)]) w := by
  obtain ⟨ie, hie, hp, hb⟩ := info31
  have := swapper_at p n c 50 ie hie (by rw [swapK hn ie hp hb]; exact find9) w
  rw [swapK hn ie hp hb, if_neg (by omega)] at this
  exact this

theorem swapper_tiny (p : Option Addr) (n c : Nat) (hn : n ≤ 1) : ∃ f, ∀ w,
    (ReflectliteSwapper.swapper "internal/reflectlite" (ReflectliteValue.valueError "Swapper") #[.iface 26 (.slice p n c)]).run Try.prog w = .ok (.func (.func f) #[] #[]) w := by
  obtain ⟨ie, hie, _, _⟩ := info31
  by_cases h0 : n = 0
  · subst h0
    exact ⟨42, fun w => swapper_at p 0 c 42 ie hie find1 w⟩
  · obtain rfl : n = 1 := by omega
    exact ⟨43, fun w => swapper_at p 1 c 43 ie hie find2 w⟩

set_option maxHeartbeats 1000000 in
theorem insertion_tiny {S f n : Nat} (hn : n ≤ 1) (w : World) :
    Calls Try.prog 51 #[.agg #[lessV S, .func (.func f) #[] #[]], .int .i64 0, .int .i64 (n : Int)] w fun e w' => e = .returned (.tuple #[]) ∧ w.alloc (.cells #[lessV S, .func (.func f) #[] #[]] 87) = w' := by
  go_enter Try.func51, Try.ntmps51
  go_wp2
  go_loopw [6] (fun i wr => i = .int .i64 1 ∧ w.alloc (.cells #[lessV S, .func (.func f) #[] #[]] 87) = wr) (fun _ _ => 0)
  case atStart => exact ⟨by go_num, rfl⟩
  case round =>
    obtain ⟨rfl, rfl⟩ := hrel
    go_wp2
    go_end0
    exact ⟨rfl, rfl⟩

set_option maxHeartbeats 1000000 in
theorem stable_tiny {S f n : Nat} (hn : n ≤ 1) (w : World) :
    Calls Try.prog 37 #[.agg #[lessV S, .func (.func f) #[] #[]], .int .i64 (n : Int)] w fun e w' => e = .returned (.tuple #[]) ∧ (w.alloc (.cells #[lessV S, .func (.func f) #[] #[]] 87)).alloc (.cells #[lessV S, .func (.func f) #[] #[]] 87) = w' := by
  go_enter Try.func37, Try.ntmps37
  go_wp2
  go_loopw [5, 6] (fun x y wr => x = .int .i64 0 ∧ y = .int .i64 20 ∧ w.alloc (.cells #[lessV S, .func (.func f) #[] #[]] 87) = wr) (fun _ _ _ => 0)
  case atStart => exact ⟨rfl, rfl, rfl⟩
  case round =>
    obtain ⟨rfl, rfl, rfl⟩ := hrel
    go_wp2_with fail
    refine (insertion_tiny hn _).mono ?_
    rintro e' w' ⟨rfl, rfl⟩
    go_wp2_with fail
    go_loopw [4] (fun x wr => x = .int .i64 20 ∧ (w.alloc (.cells #[lessV S, .func (.func f) #[] #[]] 87)).alloc (.cells #[lessV S, .func (.func f) #[] #[]] 87) = wr) (fun _ _ => 0)
    case atStart => exact ⟨rfl, rfl⟩
    case round =>
      obtain ⟨rfl, rfl⟩ := hrel
      go_wp2
      go_end0
      exact ⟨rfl, rfl⟩
end Go.Proofs.Qxb6615577a
