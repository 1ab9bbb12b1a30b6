/- The plain law: what a run of digits is worth. No Go in sight. -/
import Derived.Test.Qxb6615880aUns
namespace Go.Proofs.Qxb6615880a

/-- A byte's worth as a digit. -/
def dn (c : UInt8) : Nat := (dval c.toNat).toNat
theorem dn_int (c : UInt8) : (dn c : Int) = dval c.toNat := by have := dval_bd (c.toNat : Int); unfold dn; omega
theorem dn_le (c : UInt8) : dn c ≤ 16 := by have := dval_bd (c.toNat : Int); unfold dn; omega

/-- What the digits l are worth in base b. -/
def rV (b : Nat) : List UInt8 → Nat
  | [] => 0
  | c :: r => dn c * b ^ r.length + rV b r

theorem rV_lt {b : Nat} : ∀ {l : List UInt8}, (∀ c ∈ l, dn c < b) → rV b l < b ^ l.length
  | [], _ => by simp [rV]
  | c :: r, h => by
    have h1 : dn c < b := h c (by simp)
    have h2 := rV_lt (b := b) (l := r) fun c hc => h c (by simp [hc])
    have h3 : (dn c + 1) * b ^ r.length ≤ b * b ^ r.length := Nat.mul_le_mul_right _ h1
    simp only [rV, List.length_cons, Nat.pow_succ]
    rw [Nat.mul_comm (b ^ r.length) b]
    rw [Nat.add_mul, Nat.one_mul] at h3
    omega

theorem div_lt {n b d : Nat} (hb : 0 < b) (hd : d ≤ 16) : ((18446744073709551615 - (d : Int)) / (b : Int) < (n : Int)) ↔ 18446744073709551615 < n * b + d := by
  have e : (18446744073709551615 - (d : Int)) = ((18446744073709551615 - d : Nat) : Int) := by omega
  rw [e, ← Int.natCast_ediv, Int.ofNat_lt, Nat.div_lt_iff_lt_mul hb]
  omega

theorem step_eq (n b d k v : Nat) : (n * b + d) * b ^ k + v = n * b ^ (k + 1) + (d * b ^ k + v) := by
  rw [Nat.add_mul, Nat.pow_succ, Nat.mul_assoc, Nat.mul_comm b (b ^ k), Nat.add_assoc]

/-- Digits that come to more than 64 bits, or not. -/
theorem scan_val {b : Nat} (hb : 0 < b) : ∀ {l : List UInt8} (n : Nat), n ≤ 18446744073709551615 → (∀ c ∈ l, dn c < b) →
    scan b n l = if n * b ^ l.length + rV b l ≤ 18446744073709551615 then .inr ((n * b ^ l.length + rV b l : Nat) : Int) else .inl false
  | [], n, hn, h => by
    simp only [scan, List.length_nil, Nat.pow_zero, Nat.mul_one, rV, Nat.add_zero]
    rw [if_pos hn]
  | c :: r, n, hn, h => by
    have h1 : dn c < b := h c (by simp)
    have hd := dn_int c
    have hd16 := dn_le c
    have hr : ∀ c ∈ r, dn c < b := fun c hc => h c (by simp [hc])
    have hpos : 0 < b ^ r.length := Nat.pow_pos hb
    have hbad : ¬ (b : Int) ≤ dval c.toNat := by rw [← hd]; omega
    have hiff := div_lt (n := n) hb hd16
    rw [hd] at hiff
    simp only [List.length_cons, rV, ← step_eq]
    by_cases hp : 18446744073709551615 < n * b + dn c
    · rw [scan_cons_past hbad (hiff.2 hp), if_neg]
      have h2 : (n * b + dn c) * 1 ≤ (n * b + dn c) * b ^ r.length := Nat.mul_le_mul_left _ hpos
      omega
    · rw [scan_cons_go hbad (fun h => hp (hiff.1 h)), ← hd]
      have e : ((n : Int) * (b : Int) + (dn c : Int)) = ((n * b + dn c : Nat) : Int) := by simp
      rw [e, scan_val hb (n * b + dn c) (by omega) hr]

theorem scan_zero {b : Nat} (hb : 0 < b) {l : List UInt8} (h : ∀ c ∈ l, dn c < b) : scan b 0 l = if rV b l ≤ 18446744073709551615 then .inr (rV b l : Int) else .inl false := by
  have := scan_val hb (l := l) 0 (by omega) h
  simpa using this

/-- A digit outside the base behind good ones. -/
theorem scan_bad {b : Nat} (hb : 0 < b) : ∀ {l : List UInt8} (n : Nat) {c : UInt8} {r : List UInt8}, n ≤ 18446744073709551615 → (∀ c ∈ l, dn c < b) → b ≤ dn c →
    scan b n (l ++ c :: r) = if n * b ^ l.length + rV b l ≤ 18446744073709551615 then .inl true else .inl false
  | [], n, c, r, hn, _, hc => by
    simp only [List.nil_append, List.length_nil, Nat.pow_zero, Nat.mul_one, rV, Nat.add_zero]
    rw [if_pos hn, scan_cons_bad (by have := dn_int c; omega)]
  | d :: l, n, c, r, hn, h, hc => by
    have h1 : dn d < b := h d (by simp)
    have hd := dn_int d
    have hd16 := dn_le d
    have hr : ∀ c ∈ l, dn c < b := fun c hc => h c (by simp [hc])
    have hpos : 0 < b ^ l.length := Nat.pow_pos hb
    have hbad : ¬ (b : Int) ≤ dval d.toNat := by rw [← hd]; omega
    have hiff := div_lt (n := n) hb hd16
    rw [hd] at hiff
    simp only [List.cons_append, List.length_cons, rV, ← step_eq]
    by_cases hp : 18446744073709551615 < n * b + dn d
    · rw [scan_cons_past hbad (hiff.2 hp), if_neg]
      have h2 : (n * b + dn d) * 1 ≤ (n * b + dn d) * b ^ l.length := Nat.mul_le_mul_left _ hpos
      omega
    · rw [scan_cons_go hbad (fun h => hp (hiff.1 h)), ← hd]
      have e : ((n : Int) * (b : Int) + (dn d : Int)) = ((n * b + dn d : Nat) : Int) := by simp
      rw [e, scan_bad hb (n * b + dn d) (by omega) hr hc]

/-- What is answered of good digits. -/
theorem told_good {b : Nat} (hb : 0 < b) (s : ByteArray) {l : List UInt8} (h : ∀ c ∈ l, dn c < b) :
    told s (scan b 0 l) = if rV b l ≤ 9223372036854775807 then ((rV b l : Int), ⟨#[]⟩, ⟨#[]⟩) else (0, bPast, s) := by
  rw [scan_zero hb h]
  by_cases h1 : rV b l ≤ 9223372036854775807
  · rw [if_pos h1, if_pos (by omega), told_ok _ (by omega)]
  · rw [if_neg h1]
    by_cases h2 : rV b l ≤ 18446744073709551615
    · rw [if_pos h2, told_past _ (by omega)]
    · rw [if_neg h2]; rfl

theorem told_bad {b : Nat} (hb : 0 < b) (s : ByteArray) {l : List UInt8} {c : UInt8} {r : List UInt8} (h : ∀ c ∈ l, dn c < b) (hc : b ≤ dn c) :
    told s (scan b 0 (l ++ c :: r)) = if rV b l ≤ 18446744073709551615 then (0, bMal, s) else (0, bPast, s) := by
  have := scan_bad hb (l := l) 0 (c := c) (r := r) (by omega) h hc
  simp only [Nat.zero_mul, Nat.zero_add, Int.ofNat_zero] at this
  rw [this]
  by_cases h2 : rV b l ≤ 18446744073709551615
  · rw [if_pos h2, if_pos h2]; rfl
  · rw [if_neg h2, if_neg h2]; rfl

/-! ### Zeros ahead -/
def isZ (c : UInt8) : Bool := decide ((c.toNat : Int) = 48)
theorem dn_zero {c : UInt8} (h : isZ c = true) : dn c = 0 := by
  have h' : (c.toNat : Int) = 48 := by simpa [isZ] using h
  unfold dn; rw [h']; rfl
theorem rV_strip (b : Nat) : ∀ l : List UInt8, rV b (l.dropWhile isZ) = rV b l
  | [] => rfl
  | c :: r => by
    by_cases h : isZ c = true
    · rw [List.dropWhile_cons_of_pos h, rV_strip b r, rV, dn_zero h]; simp
    · rw [List.dropWhile_cons_of_neg h]

/-- A run's worth by its length and its first digit. -/
theorem rV_ge (b : Nat) (c : UInt8) (r : List UInt8) : dn c * b ^ r.length ≤ rV b (c :: r) := by simp [rV]
theorem rV_lt1 {b : Nat} {c : UInt8} {r : List UInt8} (h : ∀ c ∈ r, dn c < b) : rV b (c :: r) < (dn c + 1) * b ^ r.length := by
  have := rV_lt h
  rw [Nat.add_mul, Nat.one_mul]; simp only [rV]; omega
theorem pow_le (b : Nat) (hb : 0 < b) {m n : Nat} (h : m ≤ n) : b ^ m ≤ b ^ n := Nat.pow_le_pow_right hb h

end Go.Proofs.Qxb6615880a
