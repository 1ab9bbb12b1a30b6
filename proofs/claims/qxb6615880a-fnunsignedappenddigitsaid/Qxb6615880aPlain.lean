/- Plain functions on bytes. No Go in sight. -/
namespace Go.Proofs.Qxb6615880a

def isDg (c : Int) : Bool := decide (48 ≤ c) && decide (c ≤ 57)
def isHx (c : Int) : Bool := decide (97 ≤ c) && decide (c ≤ 102) || decide (65 ≤ c) && decide (c ≤ 70)
def low (c : Int) : Int := if 65 ≤ c ∧ c ≤ 90 then c + 32 else c
def dval (c : Int) : Int := if isDg c = true then c - 48 else if isHx c = true then low c - 97 + 10 else 16

theorem isDg_iff (c : Int) : isDg c = true ↔ 48 ≤ c ∧ c ≤ 57 := by simp [isDg]
theorem isHx_iff (c : Int) : isHx c = true ↔ (97 ≤ c ∧ c ≤ 102) ∨ (65 ≤ c ∧ c ≤ 70) := by simp [isHx]
theorem isDg_no (c : Int) : isDg c = false ↔ ¬ (48 ≤ c ∧ c ≤ 57) := by rw [← isDg_iff]; simp
theorem isHx_no (c : Int) : isHx c = false ↔ ¬ ((97 ≤ c ∧ c ≤ 102) ∨ (65 ≤ c ∧ c ≤ 70)) := by rw [← isHx_iff]; simp

/-- The three kinds of byte. -/
theorem kinds (c : Int) : (isDg c = true ∧ isHx c = false ∧ 0 ≤ dval c ∧ dval c < 10 ∧ dval c = c - 48) ∨ (isDg c = false ∧ isHx c = true ∧ 10 ≤ dval c ∧ dval c < 16) ∨ (isDg c = false ∧ isHx c = false ∧ dval c = 16) := by
  by_cases h : isDg c = true
  · left
    have h' := (isDg_iff c).1 h
    have e : dval c = c - 48 := by unfold dval; rw [if_pos h]
    exact ⟨h, (isHx_no c).2 (by omega), by omega, by omega, e⟩
  · right
    have h1 : isDg c = false := by simpa using h
    by_cases g : isHx c = true
    · left
      have g' := (isHx_iff c).1 g
      have e : dval c = low c - 97 + 10 := by unfold dval; rw [if_neg h, if_pos g]
      refine ⟨h1, g, ?_, ?_⟩ <;> rw [e] <;> unfold low <;> split <;> omega
    · right
      exact ⟨h1, by simpa using g, by unfold dval; rw [if_neg h, if_neg g]⟩

theorem dval_bd (c : Int) : 0 ≤ dval c ∧ dval c ≤ 16 := by rcases kinds c with h | h | h <;> omega

/-- How many of the first k bytes are digits, hex letters; how many have the value v. -/
def cD : Nat → Int
  | 0 => 0
  | k + 1 => cD k + if isDg k = true then 1 else 0
def cH : Nat → Int
  | 0 => 0
  | k + 1 => cH k + if isHx k = true then 1 else 0
def per : Nat → Nat → Int
  | 0, _ => 0
  | k + 1, v => per k v + if dval k = v then 1 else 0

theorem cD_bd : ∀ k, 0 ≤ cD k ∧ cD k ≤ k
  | 0 => by simp [cD]
  | k + 1 => by have := cD_bd k; simp only [cD]; split <;> omega
theorem cH_bd : ∀ k, 0 ≤ cH k ∧ cH k ≤ k
  | 0 => by simp [cH]
  | k + 1 => by have := cH_bd k; simp only [cH]; split <;> omega
theorem per_bd : ∀ k v, 0 ≤ per k v ∧ per k v ≤ k
  | 0, _ => by simp [per]
  | k + 1, v => by have := per_bd k v; simp only [per]; split <;> omega

theorem cD_all : cD 256 = 10 := by decide +kernel
theorem cH_all : cH 256 = 12 := by decide +kernel
theorem per_all : ∀ v, v < 16 → per 256 v = if v < 10 then 1 else 2 := by decide +kernel

end Go.Proofs.Qxb6615880a
