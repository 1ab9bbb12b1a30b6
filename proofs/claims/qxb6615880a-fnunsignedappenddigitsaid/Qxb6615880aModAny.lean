/- zzModelUnsigned (9): the one contract. -/
import Derived.Test.Qxb6615880aModX
import Derived.Test.Qxb6615880aModE
import Derived.Test.Qxb6615880aModP
import Derived.Test.Qxb6615880aModZ
namespace Go.Proofs.Qxb6615880a
open Go.RowKit

/-- THE MODEL READER ANSWERS AS Unsigned DOES. -/
theorem mod_any (s : ByteArray) (w : World) (hs : s.size ≤ maxLen) : Calls Try.prog 9 #[.string s] w fun e w' => RetM (uns s) e ∧ ∃ n, w' = w.drewN n := by
  by_cases h0 : 0 < s.size
  · by_cases h1 : isDg (s[0].toNat : Int) = true
    · by_cases h48 : (s[0].toNat : Int) = 48
      · by_cases h2 : 1 < s.size
        · by_cases h4 : (s[1].toNat : Int) = 120 ∨ (s[1].toNat : Int) = 88
          · exact mod_hex s w hs h2 h48 h4
          · exact mod_oct s w hs (by omega) h48 (by omega) (by omega)
        · exact mod_zero s w (by omega) h48
      · refine mod_dec s w hs h0 ?_ h1 h48
        by_cases h2 : 1 < s.size
        · exact Or.inr ⟨h2, Or.inl h48⟩
        · exact Or.inl (by omega)
    · have e : uns s = (0, bNoDigit, s.extract 0 1) := by unfold uns; rw [list_cons s h0]; simp only [if_neg h1]
      rw [e]; exact mod_no s w hs h0 (by simpa using h1)
  · have hz : s.data.toList.length = s.size := by simp
    have hl : s.data.toList = [] := List.eq_nil_of_length_eq_zero (by omega)
    obtain rfl : s = ⟨#[]⟩ := by cases s with | mk d => simp at hl; rw [hl]
    exact mod_empty w
end Go.Proofs.Qxb6615880a
