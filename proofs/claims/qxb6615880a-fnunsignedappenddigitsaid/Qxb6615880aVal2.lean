/- The plain law, 2: where a run of digits passes the bounds. No Go in sight. -/
import Derived.Test.Qxb6615880aVal
namespace Go.Proofs.Qxb6615880a

theorem dropWhile_head {α : Type} {p : α → Bool} : ∀ {l : List α} {c : α} {r : List α}, l.dropWhile p = c :: r → p c = false
  | [], _, _, h => by simp at h
  | a :: l, c, r, h => by
    by_cases hp : p a = true
    · rw [List.dropWhile_cons_of_pos hp] at h; exact dropWhile_head h
    · rw [List.dropWhile_cons_of_neg hp] at h
      obtain ⟨rfl, rfl⟩ := List.cons.inj h
      simpa using hp

theorem mem_dropWhile {α : Type} {p : α → Bool} {c : α} : ∀ {l : List α}, c ∈ l.dropWhile p → c ∈ l
  | [], h => by simp at h
  | a :: l, h => by
    by_cases hp : p a = true
    · rw [List.dropWhile_cons_of_pos hp] at h; exact List.mem_cons_of_mem _ (mem_dropWhile h)
    · rw [List.dropWhile_cons_of_neg hp] at h; exact h

theorem dn_pos {c : UInt8} (h : isZ c = false) : 1 ≤ dn c := by
  have h' : ¬ (c.toNat : Int) = 48 := by simpa [isZ] using h
  have hd := dn_int c
  rcases kinds (c.toNat : Int) with ⟨_, _, _, _, e⟩ | ⟨_, _, e, _⟩ | ⟨_, _, e⟩ <;> omega

/-- Significant digits: all below the base, the first not nought. -/
def Sig (b : Nat) (l : List UInt8) : Prop := (∀ c ∈ l, dn c < b) ∧ ∀ c r, l = c :: r → 1 ≤ dn c
theorem sig_strip {b : Nat} {l : List UInt8} (h : ∀ c ∈ l, dn c < b) : Sig b (l.dropWhile isZ) :=
  ⟨fun c hc => h c (mem_dropWhile hc), fun _ _ e => dn_pos (dropWhile_head e)⟩

theorem sig_long {b : Nat} (hb : 0 < b) {l : List UInt8} (h : Sig b l) {k : Nat} (hk : k < l.length) : b ^ k ≤ rV b l := by
  match l, h, hk with
  | c :: r, h, hk =>
    have h1 := h.2 c r rfl
    have h2 := rV_ge b c r
    have h3 : 1 * b ^ r.length ≤ dn c * b ^ r.length := Nat.mul_le_mul_right _ h1
    have h4 := pow_le b hb (m := k) (n := r.length) (by simpa using Nat.lt_succ_iff.1 hk)
    omega

theorem sig_short {b : Nat} (hb : 0 < b) {l : List UInt8} (h : ∀ c ∈ l, dn c < b) {k : Nat} (hk : l.length ≤ k) : rV b l < b ^ k :=
  Nat.lt_of_lt_of_le (rV_lt h) (pow_le b hb hk)

theorem hex_past_long {l : List UInt8} (h : Sig 16 l) (hk : 16 < l.length) : 9223372036854775807 < rV 16 l := by
  have := sig_long (by omega) h hk
  have e : (16 : Nat) ^ 16 = 18446744073709551616 := by decide
  omega
theorem hex_past_16 {c : UInt8} {r : List UInt8} (hk : r.length = 15) (h8 : 8 ≤ dn c) : 9223372036854775807 < rV 16 (c :: r) := by
  have h2 := rV_ge 16 c r
  rw [hk] at h2
  have e : (16 : Nat) ^ 15 = 1152921504606846976 := by decide
  rw [e] at h2
  omega
theorem hex_fits_16 {c : UInt8} {r : List UInt8} (h : ∀ c ∈ r, dn c < 16) (hk : r.length = 15) (h8 : dn c < 8) : rV 16 (c :: r) ≤ 9223372036854775807 := by
  have h2 := rV_lt1 (b := 16) (c := c) h
  rw [hk] at h2
  have e : (16 : Nat) ^ 15 = 1152921504606846976 := by decide
  rw [e] at h2
  omega
theorem hex_fits_short {l : List UInt8} (h : ∀ c ∈ l, dn c < 16) (hk : l.length ≤ 15) : rV 16 l ≤ 9223372036854775807 := by
  have := sig_short (by omega) h hk
  have e : (16 : Nat) ^ 15 = 1152921504606846976 := by decide
  omega

theorem oct_past_long {l : List UInt8} (h : Sig 8 l) (hk : 22 < l.length) : 18446744073709551615 < rV 8 l := by
  have := sig_long (by omega) h hk
  have e : (8 : Nat) ^ 22 = 73786976294838206464 := by decide
  omega
theorem oct_past_22 {c : UInt8} {r : List UInt8} (hk : r.length = 21) (h2' : 2 ≤ dn c) : 18446744073709551615 < rV 8 (c :: r) := by
  have h2 := rV_ge 8 c r
  rw [hk] at h2
  have e : (8 : Nat) ^ 21 = 9223372036854775808 := by decide
  rw [e] at h2
  omega
theorem oct_u_22 {c : UInt8} {r : List UInt8} (h : ∀ c ∈ r, dn c < 8) (hk : r.length = 21) (h2' : dn c < 2) : rV 8 (c :: r) ≤ 18446744073709551615 := by
  have h2 := rV_lt1 (b := 8) (c := c) h
  rw [hk] at h2
  have e : (8 : Nat) ^ 21 = 9223372036854775808 := by decide
  rw [e] at h2
  omega
theorem oct_fits {l : List UInt8} (h : ∀ c ∈ l, dn c < 8) (hk : l.length ≤ 21) : rV 8 l ≤ 9223372036854775807 := by
  have := sig_short (by omega) h hk
  have e : (8 : Nat) ^ 21 = 9223372036854775808 := by decide
  omega
theorem oct_past_21 {l : List UInt8} (h : Sig 8 l) (hk : 21 < l.length) : 9223372036854775807 < rV 8 l := by
  have := sig_long (by omega) h hk
  have e : (8 : Nat) ^ 21 = 9223372036854775808 := by decide
  omega

theorem dec_past_long {l : List UInt8} (h : Sig 10 l) (hk : 19 < l.length) : 9223372036854775807 < rV 10 l := by
  have := sig_long (by omega) h hk
  have e : (10 : Nat) ^ 19 = 10000000000000000000 := by decide
  omega
theorem dec_fits_short {l : List UInt8} (h : ∀ c ∈ l, dn c < 10) (hk : l.length ≤ 18) : rV 10 l ≤ 9223372036854775807 := by
  have := sig_short (by omega) h hk
  have e : (10 : Nat) ^ 18 = 1000000000000000000 := by decide
  omega

/-- The order of bytes (as Go has it). -/
def bless : List UInt8 → List UInt8 → Bool
  | _, [] => false
  | [], _ :: _ => true
  | a :: x, b :: y => a < b || (a == b && bless x y)

def allDg (l : List UInt8) : Prop := ∀ c ∈ l, isDg c.toNat = true
theorem dn_dg {c : UInt8} (h : isDg c.toNat = true) : dn c + 48 = c.toNat := by
  have hb := (isDg_iff _).1 h
  have hd := dn_int c
  have e : dval (c.toNat : Int) = (c.toNat : Int) - 48 := by unfold dval; rw [if_pos h]
  omega
theorem dn_dg_lt {c : UInt8} (h : isDg c.toNat = true) : dn c < 10 := by
  have hb := (isDg_iff _).1 h
  have := dn_dg h
  omega

/-- Among runs of one length the bytes' order is the numbers'. -/
theorem bless_val : ∀ {x y : List UInt8}, x.length = y.length → allDg x → allDg y → (bless x y = true ↔ rV 10 x < rV 10 y)
  | [], [], _, _, _ => by simp [bless, rV]
  | a :: x, b :: y, hl, hx, hy => by
    have hl' : x.length = y.length := by simpa using hl
    have ih := bless_val hl' (fun c hc => hx c (by simp [hc])) (fun c hc => hy c (by simp [hc]))
    have ha := dn_dg (hx a (by simp))
    have hb := dn_dg (hy b (by simp))
    have h1 := rV_lt (b := 10) (l := x) fun c hc => dn_dg_lt (hx c (by simp [hc]))
    have h2 := rV_lt (b := 10) (l := y) fun c hc => dn_dg_lt (hy c (by simp [hc]))
    simp only [bless, rV, hl']
    rw [hl'] at h1
    by_cases hlt : a.toNat < b.toNat
    · have h3 : (dn a + 1) * 10 ^ y.length ≤ dn b * 10 ^ y.length := Nat.mul_le_mul_right _ (by omega)
      rw [Nat.add_mul, Nat.one_mul] at h3
      have h4 : a < b := by rw [UInt8.lt_iff_toNat_lt]; exact hlt
      simp only [h4, decide_true, Bool.true_or, true_iff]
      omega
    · have h4 : ¬ a < b := by rw [UInt8.lt_iff_toNat_lt]; exact hlt
      by_cases he : a = b
      · subst he
        simp only [h4, decide_false, Bool.false_or, beq_self_eq_true, Bool.true_and, ih]
        omega
      · have h5 : b.toNat < a.toNat := by
          have : a.toNat ≠ b.toNat := fun h => he (UInt8.toNat_inj.1 h)
          omega
        have h3 : (dn b + 1) * 10 ^ y.length ≤ dn a * 10 ^ y.length := Nat.mul_le_mul_right _ (by omega)
        rw [Nat.add_mul, Nat.one_mul] at h3
        have h6 : (a == b) = false := by simpa using he
        simp only [h4, decide_false, Bool.false_or, h6, Bool.false_and]
        simp
        omega

/-- The greatest int64, written out. -/
def maxDigits : List UInt8 := [57, 50, 50, 51, 51, 55, 50, 48, 51, 54, 56, 53, 52, 55, 55, 53, 56, 48, 55]
theorem maxDigits_val : rV 10 maxDigits = 9223372036854775807 := by decide +kernel
theorem maxDigits_dg : allDg maxDigits := by unfold allDg; decide +kernel

theorem rV_inj : ∀ {x y : List UInt8}, x.length = y.length → allDg x → allDg y → rV 10 x = rV 10 y → x = y
  | [], [], _, _, _, _ => rfl
  | a :: x, b :: y, hl, hx, hy, he => by
    have h1 : ¬ bless (a :: x) (b :: y) = true := by rw [bless_val hl hx hy]; omega
    have h2 : ¬ bless (b :: y) (a :: x) = true := by rw [bless_val hl.symm hy hx]; omega
    have hl' : x.length = y.length := by simpa using hl
    have hab : a = b := by
      have n1 : ¬ a < b := fun h => h1 (by simp [bless, h])
      have n2 : ¬ b < a := fun h => h2 (by simp [bless, h])
      rw [UInt8.lt_iff_toNat_lt] at n1 n2
      exact UInt8.toNat_inj.1 (by omega)
    subst hab
    simp only [rV, hl'] at he
    rw [rV_inj hl' (fun c hc => hx c (by simp [hc])) (fun c hc => hy c (by simp [hc])) (by omega)]

/-- run > "9223372036854775807", both of nineteen digits. -/
theorem past_19 {x : List UInt8} (hl : x.length = 19) (hx : allDg x) : (!(bless x maxDigits || x == maxDigits)) = true ↔ 9223372036854775807 < rV 10 x := by
  have h1 := bless_val (x := x) (y := maxDigits) (by rw [hl]; rfl) hx maxDigits_dg
  rw [maxDigits_val] at h1
  have h2 : (x == maxDigits) = true ↔ rV 10 x = 9223372036854775807 := by
    constructor
    · intro h; rw [eq_of_beq h]; exact maxDigits_val
    · intro h; rw [rV_inj (y := maxDigits) (by rw [hl]; rfl) hx maxDigits_dg (by rw [h, maxDigits_val])]; simp
  cases hb : bless x maxDigits <;> cases he : x == maxDigits <;> simp_all <;> omega

/-! ### From the right -/
theorem rV_drop (b : Nat) (l : List UInt8) (k : Nat) (hk : k < l.length) : rV b (l.drop k) = dn l[k] * b ^ (l.length - 1 - k) + rV b (l.drop (k + 1)) := by
  rw [List.drop_eq_getElem_cons hk, rV]
  congr 3
  simp; omega

theorem rV_drop_le (b : Nat) : ∀ (l : List UInt8) (k : Nat), rV b (l.drop k) ≤ rV b l
  | [], k => by simp
  | c :: r, 0 => by simp
  | c :: r, k + 1 => by
    have := rV_drop_le b r k
    simp only [List.drop_succ_cons, rV]; omega

end Go.Proofs.Qxb6615880a
