/- Plain functions: what units.Unsigned computes. No Go in sight. -/
import Derived.Test.Qxb6615880aPlain
namespace Go.Proofs.Qxb6615880a

/-- The digits' scan: 'inl true': a digit outside the base; 'inl false': past 64 bits; 'inr n': the value. -/
def scan (base : Int) : Int → List UInt8 → Sum Bool Int
  | n, [] => .inr n
  | n, c :: r => if base ≤ dval c.toNat then .inl true else if (18446744073709551615 - dval c.toNat) / base < n then .inl false else scan base (n * base + dval c.toNat) r

def bEmpty : ByteArray := ⟨#[101, 109, 112, 116, 121]⟩
def bNoDigit : ByteArray := ⟨#[119, 104, 101, 114, 101, 32, 97, 32, 100, 105, 103, 105, 116, 32, 98, 101, 108, 111, 110, 103, 115]⟩
def bAfter : ByteArray := ⟨#[97, 102, 116, 101, 114, 32, 116, 104, 101, 32, 110, 117, 109, 98, 101, 114]⟩
def bMal : ByteArray := ⟨#[109, 97, 108, 102, 111, 114, 109, 101, 100, 32, 110, 117, 109, 98, 101, 114]⟩
def bPast : ByteArray := ⟨#[112, 97, 115, 116, 32, 54, 52, 32, 98, 105, 116, 115]⟩

/-- What is answered of a scan: the value, the problem, the text it is about. -/
def told (s : ByteArray) : Sum Bool Int → Int × ByteArray × ByteArray
  | .inl true => (0, bMal, s)
  | .inl false => (0, bPast, s)
  | .inr n => if 9223372036854775807 < n then (0, bPast, s) else (n, ⟨#[]⟩, ⟨#[]⟩)

theorem scan_cons_bad {base n : Int} {c : UInt8} {r : List UInt8} (h : base ≤ dval c.toNat) : scan base n (c :: r) = .inl true := by simp [scan, h]
theorem scan_cons_past {base n : Int} {c : UInt8} {r : List UInt8} (h : ¬ base ≤ dval c.toNat) (h2 : (18446744073709551615 - dval c.toNat) / base < n) : scan base n (c :: r) = .inl false := by
  rw [scan, if_neg h, if_pos h2]
theorem scan_cons_go {base n : Int} {c : UInt8} {r : List UInt8} (h : ¬ base ≤ dval c.toNat) (h2 : ¬ (18446744073709551615 - dval c.toNat) / base < n) : scan base n (c :: r) = scan base (n * base + dval c.toNat) r := by
  rw [scan, if_neg h, if_neg h2]

theorem told_past (s : ByteArray) {n : Int} (h : 9223372036854775807 < n) : told s (.inr n) = (0, bPast, s) := by simp [told, h]
theorem told_ok (s : ByteArray) {n : Int} (h : n ≤ 9223372036854775807) : told s (.inr n) = (n, ⟨#[]⟩, ⟨#[]⟩) := by
  have : ¬ 9223372036854775807 < n := by omega
  simp only [told, if_neg this]

theorem drop_at (s : ByteArray) (k : Nat) (h : k < s.size) : s.data.toList.drop k = s[k] :: s.data.toList.drop (k + 1) := by
  rw [List.drop_eq_getElem_cons (by simpa using h)]; rfl


/-- The scan of a number's digits, its base told by its head. -/
def numVal : List UInt8 → Sum Bool Int
  | [] => .inr 0
  | [c] => if (c.toNat : Int) = 48 then scan 8 0 [] else scan 10 0 [c]
  | [c, d] => if (c.toNat : Int) = 48 then scan 8 0 [d] else scan 10 0 [c, d]
  | c :: d :: e :: r => if (c.toNat : Int) = 48 then (if isDg d.toNat = true then scan 8 0 (d :: e :: r) else scan 16 0 (e :: r)) else scan 10 0 (c :: d :: e :: r)

theorem numVal_ten {c : UInt8} {r : List UInt8} (h : ¬ (c.toNat : Int) = 48) : numVal (c :: r) = scan 10 0 (c :: r) := by
  match r with
  | [] => simp only [numVal, if_neg h]
  | [_] => simp only [numVal, if_neg h]
  | _ :: _ :: _ => simp only [numVal, if_neg h]
theorem numVal_eight {c : UInt8} {r : List UInt8} (h : (c.toNat : Int) = 48) (h2 : r.length ≤ 1 ∨ ∃ d r', r = d :: r' ∧ isDg d.toNat = true) : numVal (c :: r) = scan 8 0 r := by
  match r, h2 with
  | [], _ => simp only [numVal, if_pos h]
  | [_], _ => simp only [numVal, if_pos h]
  | d :: e :: r', h2 =>
    rcases h2 with h2 | ⟨d', r'', e', h3⟩
    · simp at h2
    · obtain ⟨rfl, rfl⟩ := List.cons.inj e'
      simp only [numVal, if_pos h, if_pos h3]
theorem numVal_sixteen {c d e : UInt8} {r : List UInt8} (h : (c.toNat : Int) = 48) (h2 : isDg d.toNat = false) : numVal (c :: d :: e :: r) = scan 16 0 (e :: r) := by
  have : ¬ isDg d.toNat = true := by simp [h2]
  simp only [numVal, if_pos h, if_neg this]

theorem list_cons (s : ByteArray) (h : 0 < s.size) : s.data.toList = s[0] :: s.data.toList.drop 1 := by
  have := drop_at s 0 h
  rwa [List.drop_zero] at this

theorem extract_list (s : ByteArray) (a : Nat) : (s.extract a s.size).data.toList = s.data.toList.drop a := by
  have : s.data.toList.length = s.size := by simp
  rw [ByteArray.data_extract, Array.toList_extract, List.extract_eq_take_drop, List.take_of_length_le]
  simp

theorem extract_list0 (s : ByteArray) (b : Nat) : (s.extract 0 b).data.toList = s.data.toList.take b := by
  rw [ByteArray.data_extract, Array.toList_extract, List.extract_eq_take_drop]
  simp
end Go.Proofs.Qxb6615880a
