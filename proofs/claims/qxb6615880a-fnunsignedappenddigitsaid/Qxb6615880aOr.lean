/- v | (d << e), e beyond v's bits. -/
import Derived.Test.Qxb6615880aMod
namespace Go.Proofs.Qxb6615880a
open Go.RowKit

theorem or_join (d v e : Nat) (h : v < 2 ^ e) : v ||| d * 2 ^ e = d * 2 ^ e + v := by
  have := Nat.shiftLeft_add_eq_or_of_lt h d
  rw [Nat.shiftLeft_eq] at this
  rw [this, Nat.or_comm]

theorem wrap_small (n : Nat) (h : n ≤ 9223372036854775807) : ((n : Int) + 9223372036854775808) % 18446744073709551616 - 9223372036854775808 = n := by omega

theorem or_step {d v e : Nat} (h : v < 2 ^ e) (hb : d * 2 ^ e + v ≤ 9223372036854775807) :
    bits .or .i64 (v : Int) (wrap64 ((d : Int) * 2 ^ e)) = ((d * 2 ^ e + v : Nat) : Int) := by
  have e1 : ((d : Int) * 2 ^ e) = ((d * 2 ^ e : Nat) : Int) := by simp
  rw [e1, IntWalk.wrap64_in _ ⟨by omega, by omega⟩]
  show IntKind.i64.wrap ((BitVec.ofInt 64 (v : Int) ||| BitVec.ofInt 64 ((d * 2 ^ e : Nat) : Int)).toNat : Int) = _
  rw [BitVec.toNat_or, ofInt_u64 v (by omega), ofInt_u64 (d * 2 ^ e) (by omega), or_join d v e h, IntKind.wrap_i64]
  exact wrap_small _ hb

/-- The round of the hexadecimal reader. -/
theorem hex_round {t : ByteArray} {m : Nat} (h : ∀ c ∈ t.data.toList, dn c < 16) (hf : rV 16 t.data.toList ≤ 9223372036854775807) (hm : m < t.size) :
    bits .or .i64 (rV 16 (t.data.toList.drop (t.size - m)) : Int) (wrap64 (dval (t[t.size - 1 - m].toNat : Int) * 2 ^ (4 * m))) = (rV 16 (t.data.toList.drop (t.size - (m + 1))) : Int) := by
  have hl : t.data.toList.length = t.size := by simp
  have hk : t.size - (m + 1) < t.data.toList.length := by omega
  have e := rV_drop 16 t.data.toList (t.size - (m + 1)) hk
  have e1 : t.data.toList.length - 1 - (t.size - (m + 1)) = m := by omega
  have e2 : t.size - (m + 1) + 1 = t.size - m := by omega
  have e3 : t.data.toList[t.size - (m + 1)] = t[t.size - 1 - m] := by
    have : t.size - (m + 1) = t.size - 1 - m := by omega
    simp only [this]; rfl
  rw [e1, e2, e3] at e
  have hlt : rV 16 (t.data.toList.drop (t.size - m)) < 2 ^ (4 * m) := by
    have := rV_lt (b := 16) (l := t.data.toList.drop (t.size - m)) fun c hc => h c (List.mem_of_mem_drop hc)
    rw [List.length_drop, hl, show t.size - (t.size - m) = m by omega] at this
    rwa [Nat.pow_mul]
  have e4 : (16 : Nat) ^ m = 2 ^ (4 * m) := by rw [Nat.pow_mul]
  rw [e4] at e
  have hle := rV_drop_le 16 t.data.toList (t.size - (m + 1))
  rw [← dn_int, or_step hlt (by omega), e]

/-- The round of the octal reader. -/
theorem oct_round {t : ByteArray} {m : Nat} (h : ∀ c ∈ t.data.toList, dn c < 8) (hf : rV 8 t.data.toList ≤ 9223372036854775807) (hm : m < t.size) :
    bits .or .i64 (rV 8 (t.data.toList.drop (t.size - m)) : Int) (wrap64 (dval (t[t.size - 1 - m].toNat : Int) * 2 ^ (3 * m))) = (rV 8 (t.data.toList.drop (t.size - (m + 1))) : Int) := by
  have hl : t.data.toList.length = t.size := by simp
  have hk : t.size - (m + 1) < t.data.toList.length := by omega
  have e := rV_drop 8 t.data.toList (t.size - (m + 1)) hk
  have e1 : t.data.toList.length - 1 - (t.size - (m + 1)) = m := by omega
  have e2 : t.size - (m + 1) + 1 = t.size - m := by omega
  have e3 : t.data.toList[t.size - (m + 1)] = t[t.size - 1 - m] := by
    have : t.size - (m + 1) = t.size - 1 - m := by omega
    simp only [this]; rfl
  rw [e1, e2, e3] at e
  have hlt : rV 8 (t.data.toList.drop (t.size - m)) < 2 ^ (3 * m) := by
    have := rV_lt (b := 8) (l := t.data.toList.drop (t.size - m)) fun c hc => h c (List.mem_of_mem_drop hc)
    rw [List.length_drop, hl, show t.size - (t.size - m) = m by omega] at this
    rwa [Nat.pow_mul]
  have e4 : (8 : Nat) ^ m = 2 ^ (3 * m) := by rw [Nat.pow_mul]
  rw [e4] at e
  have hle := rV_drop_le 8 t.data.toList (t.size - (m + 1))
  rw [← dn_int, or_step hlt (by omega), e]
end Go.Proofs.Qxb6615880a
