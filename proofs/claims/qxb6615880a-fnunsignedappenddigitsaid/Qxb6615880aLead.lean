/- digitsValue's one contract; leadingNumber (16). -/
import Derived.Test.Qxb6615880aDv
namespace Go.Proofs.Qxb6615880a
open Go.RowKit

theorem dv_any (s : ByteArray) (w : World) (hs : s.size ≤ maxLen) (h0 : 0 < s.size) :
    Calls Try.prog 22 #[.string s] w fun e w' => RetF (told s (numVal s.data.toList)) e ∧ Below w.heap.size w w' := by
  have hl := list_cons s h0
  by_cases h1 : (s[0].toNat : Int) = 48
  · by_cases h2 : 2 < s.size
    · have hl1 := drop_at s 1 (by omega)
      have hl2 := drop_at s 2 (by omega)
      by_cases h3 : isDg (s[1].toNat : Int) = true
      · have e : numVal s.data.toList = scan 8 0 (s.extract 1 s.size).data.toList := by
          rw [extract_list, hl]
          exact numVal_eight h1 (Or.inr ⟨s[1], s.data.toList.drop 2, hl1, h3⟩)
        rw [e]
        exact dv_eight s _ w hs h0 h1 (Or.inr ⟨by omega, h3⟩) rfl
      · have h3' : isDg (s[1].toNat : Int) = false := by simpa using h3
        have e : numVal s.data.toList = scan 16 0 (s.extract 2 s.size).data.toList := by
          rw [extract_list, hl, hl1, hl2]
          exact numVal_sixteen h1 h3'
        rw [e]
        exact dv_sixteen s _ w hs h2 h1 h3' rfl
    · have e : numVal s.data.toList = scan 8 0 (s.extract 1 s.size).data.toList := by
        rw [extract_list]
        conv => lhs; rw [hl]
        exact numVal_eight h1 (Or.inl (by simp; omega))
      rw [e]
      exact dv_eight s _ w hs h0 h1 (Or.inl (by omega)) rfl
  · have e : numVal s.data.toList = scan 10 0 s.data.toList := by
      conv => lhs; rw [hl]
      rw [numVal_ten h1, ← hl]
    rw [e]
    exact dv_ten s w hs h0 h1

/-- The call hands back a value, a text and a Fault. -/
def RetL (n : Int) (tail p t : ByteArray) (e : Ending) : Prop := e = .returned (.tuple #[.int .i64 n, .string tail, .agg #[.string p, .string t]])

set_option maxRecDepth 10000 in
set_option maxHeartbeats 1000000 in
theorem lead_no (s : ByteArray) (w : World) (hs : s.size ≤ maxLen) (h0 : 0 < s.size) (h1 : isDg (s[0].toNat : Int) = false) :
    Calls Try.prog 16 #[.string s] w fun e w' => RetL 0 ⟨#[]⟩ bNoDigit (s.extract 0 1) e ∧ Below w.heap.size w w' := by
  unfold maxLen at hs
  have h0' : (0 : Int) < (s.size : Int) := by omega
  have h1' : (1 : Int) ≤ (s.size : Int) := by omega
  go_enter Try.func16, Try.ntmps16
  go_wp2_with (go_at_call 19; refine (isDigit_any _ _).mono ?_; rintro e w' ⟨rfl, hw'⟩; subst hw')
  go_region
  all_goals go_wp2
  all_goals exact bodyPost_ret (v := .tuple #[.int .i64 0, .string ⟨#[]⟩, .agg #[.string bNoDigit, .string (s.extract 0 1)]]) (by simp [results, Try.results16, go_sem, bNoDigit]) rfl ⟨rfl, ((Below.refl _ _).alloc (Nat.le_refl _) _).drew⟩

theorem bcell {W w1 : World} (hb : Below W.heap.size W w1) : (∀ b o, b < W.heap.size → w1.cell? ⟨b, o, none⟩ = W.cell? ⟨b, o, none⟩) ∧ (∀ b o, b < W.heap.size → w1.frozen? ⟨b, o, none⟩ = W.frozen? ⟨b, o, none⟩) :=
  ⟨fun b o h => hb.cell (p := ⟨b, o, none⟩) h, fun b o h => hb.frozen (p := ⟨b, o, none⟩) h⟩

/-- The end of the run of bytes that p takes, from st on. -/
def runEnd (p : UInt8 → Bool) (l : List UInt8) (st : Nat) : Nat := st + ((l.drop st).takeWhile p).length

theorem runEnd_step {p : UInt8 → Bool} {s : ByteArray} {k : Nat} (h : k < s.size) (hp : p s[k] = true) : runEnd p s.data.toList k = runEnd p s.data.toList (k + 1) := by
  unfold runEnd
  rw [drop_at s k h, List.takeWhile_cons_of_pos hp, List.length_cons]
  omega
theorem runEnd_stop {p : UInt8 → Bool} {s : ByteArray} {k : Nat} (h : k < s.size) (hp : p s[k] = false) : runEnd p s.data.toList k = k := by
  unfold runEnd
  rw [drop_at s k h, List.takeWhile_cons_of_neg (by simp [hp])]
  rfl
theorem runEnd_end {p : UInt8 → Bool} {s : ByteArray} {k : Nat} (h : s.size ≤ k) : runEnd p s.data.toList k = k := by
  unfold runEnd
  rw [List.drop_eq_nil_of_le (by simp; omega)]
  rfl

def pDec (c : UInt8) : Bool := isDg c.toNat
def pHex (c : UInt8) : Bool := isDg c.toNat || isHx c.toNat

theorem endBelow {w w1 : World} {o : Obj} (h : Below (w.heap.size + 1) (w.alloc o) w1) (o2 : Obj) (u v : Value) :
    Below w.heap.size w (((w1.setCell ⟨w.heap.size, 0, none⟩ u).setCell ⟨w.heap.size, 1, none⟩ v).alloc o2).drew := by
  have hz : w.heap.size ≤ w1.heap.size := by have := h.size; simp at this; omega
  exact ((((((Below.refl _ _).alloc (Nat.le_refl _) o).trans (h.mono (by omega))).setCell (p := ⟨w.heap.size, 0, none⟩) (Nat.le_refl _) u).setCell (p := ⟨w.heap.size, 1, none⟩) (Nat.le_refl _) v).alloc (by simpa [World.setCell] using hz) o2).drew

/-- What leadingNumber hands back of a number that ends at E. -/
def lead (s : ByteArray) (E : Nat) : Int × ByteArray × ByteArray := told (s.extract 0 E) (numVal (s.extract 0 E).data.toList)

set_option maxRecDepth 10000 in
set_option maxHeartbeats 2000000 in
theorem lead_dec (s : ByteArray) (w : World) (hs : s.size ≤ maxLen) (h0 : 0 < s.size) (h1 : isDg (s[0].toNat : Int) = true)
    (hn : s.size ≤ 1 ∨ ∃ h : 1 < s.size, ¬ (s[0].toNat : Int) = 48 ∨ ((s[0].toNat : Int) = 48 ∧ ¬ (s[1].toNat : Int) = 120 ∧ ¬ (s[1].toNat : Int) = 88)) :
    Calls Try.prog 16 #[.string s] w fun e w' => RetL (lead s (runEnd pDec s.data.toList 1)).1 (s.extract (runEnd pDec s.data.toList 1) s.size) (lead s (runEnd pDec s.data.toList 1)).2.1 (lead s (runEnd pDec s.data.toList 1)).2.2 e ∧ Below w.heap.size w w' := by
  have HM : Hid (s.size ≤ maxLen) := hs
  unfold maxLen at hs
  have h0' : (0 : Int) < (s.size : Int) := by omega
  rcases hn with h2 | ⟨h2, h3 | ⟨h3, h4, h5⟩⟩
  · go_enter Try.func16, Try.ntmps16
    go_wp2_with (go_at_call 19; refine (isDigit_any _ _).mono ?_; rintro e w' ⟨rfl, hw'⟩; subst hw')
    go_loop [5] (fun i => ∃ k : Nat, 1 ≤ k ∧ k ≤ s.size ∧ i = .int .i64 k ∧ Hid (runEnd pDec s.data.toList 1 = runEnd pDec s.data.toList k)) (fun i => s.size - (intOf i).toNat)
    case atStart => exact ⟨1, Nat.le_refl _, by omega, rfl, rfl⟩
    case round =>
      obtain ⟨k, hk0, hk, rfl, HE⟩ := hrel
      by_cases hp : ∃ h : k < s.size, isDg (s[k].toNat : Int) = true
      · obtain ⟨hlt, hp⟩ := hp
        have HN : Hid (runEnd pDec s.data.toList k = runEnd pDec s.data.toList (k + 1)) := runEnd_step hlt hp
        have hlt' : (k : Int) < s.size := by omega
        go_wp2_with (go_at_call 19; refine (isDigit_any _ _).mono ?_; rintro e w' ⟨rfl, hw'⟩; subst hw')
        go_round
        case rel => exact ⟨k + 1, by omega, by omega, by go_num, HE.out.trans HN.out⟩
        case measure => simp [intOf]; omega
      · have HN : Hid (runEnd pDec s.data.toList 1 = k) := by
          refine HE.out.trans ?_
          by_cases hlt : k < s.size
          · exact runEnd_stop hlt (by cases h : pDec s[k]; rfl; exact absurd ⟨hlt, h⟩ hp)
          · exact runEnd_end (by omega)
        have HD : Hid (∀ wx, Calls Try.prog 22 #[.string (s.extract 0 k)] wx fun e w' => RetF (lead s k) e ∧ Below wx.heap.size wx w') := fun wx => dv_any _ wx (by have := HM.out; rw [ByteArray.size_extract]; omega) (by rw [ByteArray.size_extract]; omega)
        clear HE HM
        by_cases hlt : k < s.size
        · exfalso; omega
        · clear hp
          go_wp2_with fail
          refine (HD.out _).mono ?_
          rintro e w1 ⟨he, hb⟩
          unfold RetF at he
          subst he
          obtain ⟨hc, hf⟩ := bcell hb
          have hz : w.heap.size < w1.heap.size := by have := hb.size; simp at this; omega
          have HB : Hid (Below (w.heap.size + 1) (w.alloc (Obj.cells #[Value.string { data := #[] }, Value.string { data := #[] }] 25)) w1) := by show Below (w.heap.size + 1) _ w1; simpa using hb
          clear hb
          go_wp2_with fail
          go_region
          all_goals go_wp2
          all_goals exact bodyPost_ret (v := .tuple #[.int .i64 (lead s k).1, .string (s.extract k s.size), .agg #[.string (lead s k).2.1, .string (lead s k).2.2]]) (by simp [results, Try.results16, go_sem, hc, hz]) rfl ⟨by rw [HN.out]; rfl, endBelow HB.out _ _ _⟩
  · have q1 : ((s[0].toNat : Int) == 48) = false := by simpa using h3
    have h2' : (1 : Int) < s.size := by omega
    clear h3
    go_enter Try.func16, Try.ntmps16
    go_wp2_with (go_at_call 19; refine (isDigit_any _ _).mono ?_; rintro e w' ⟨rfl, hw'⟩; subst hw')
    go_loop [5] (fun i => ∃ k : Nat, 1 ≤ k ∧ k ≤ s.size ∧ i = .int .i64 k ∧ Hid (runEnd pDec s.data.toList 1 = runEnd pDec s.data.toList k)) (fun i => s.size - (intOf i).toNat)
    case atStart => exact ⟨1, Nat.le_refl _, by omega, rfl, rfl⟩
    case round =>
      obtain ⟨k, hk0, hk, rfl, HE⟩ := hrel
      by_cases hp : ∃ h : k < s.size, isDg (s[k].toNat : Int) = true
      · obtain ⟨hlt, hp⟩ := hp
        have HN : Hid (runEnd pDec s.data.toList k = runEnd pDec s.data.toList (k + 1)) := runEnd_step hlt hp
        have hlt' : (k : Int) < s.size := by omega
        go_wp2_with (go_at_call 19; refine (isDigit_any _ _).mono ?_; rintro e w' ⟨rfl, hw'⟩; subst hw')
        go_round
        case rel => exact ⟨k + 1, by omega, by omega, by go_num, HE.out.trans HN.out⟩
        case measure => simp [intOf]; omega
      · have HN : Hid (runEnd pDec s.data.toList 1 = k) := by
          refine HE.out.trans ?_
          by_cases hlt : k < s.size
          · exact runEnd_stop hlt (by cases h : pDec s[k]; rfl; exact absurd ⟨hlt, h⟩ hp)
          · exact runEnd_end (by omega)
        have HD : Hid (∀ wx, Calls Try.prog 22 #[.string (s.extract 0 k)] wx fun e w' => RetF (lead s k) e ∧ Below wx.heap.size wx w') := fun wx => dv_any _ wx (by have := HM.out; rw [ByteArray.size_extract]; omega) (by rw [ByteArray.size_extract]; omega)
        clear HE HM
        by_cases hlt : k < s.size
        · have hp' : isDg (s[k].toNat : Int) = false := by cases h : isDg (s[k].toNat : Int); rfl; exact absurd ⟨hlt, h⟩ hp
          have hlt' : (k : Int) < s.size := by omega
          clear hp
          go_wp2_with (go_at_call 19; refine (isDigit_any _ _).mono ?_; rintro e w' ⟨rfl, hw'⟩; subst hw')
          refine (HD.out _).mono ?_
          rintro e w1 ⟨he, hb⟩
          unfold RetF at he
          subst he
          obtain ⟨hc, hf⟩ := bcell hb
          have hz : w.heap.size < w1.heap.size := by have := hb.size; simp at this; omega
          have HB : Hid (Below (w.heap.size + 1) (w.alloc (Obj.cells #[Value.string { data := #[] }, Value.string { data := #[] }] 25)) w1) := by show Below (w.heap.size + 1) _ w1; simpa using hb
          clear hb
          go_wp2_with fail
          go_region
          all_goals go_wp2
          all_goals exact bodyPost_ret (v := .tuple #[.int .i64 (lead s k).1, .string (s.extract k s.size), .agg #[.string (lead s k).2.1, .string (lead s k).2.2]]) (by simp [results, Try.results16, go_sem, hc, hz]) rfl ⟨by rw [HN.out]; rfl, endBelow HB.out _ _ _⟩
        · clear hp
          go_wp2_with fail
          refine (HD.out _).mono ?_
          rintro e w1 ⟨he, hb⟩
          unfold RetF at he
          subst he
          obtain ⟨hc, hf⟩ := bcell hb
          have hz : w.heap.size < w1.heap.size := by have := hb.size; simp at this; omega
          have HB : Hid (Below (w.heap.size + 1) (w.alloc (Obj.cells #[Value.string { data := #[] }, Value.string { data := #[] }] 25)) w1) := by show Below (w.heap.size + 1) _ w1; simpa using hb
          clear hb
          go_wp2_with fail
          go_region
          all_goals go_wp2
          all_goals exact bodyPost_ret (v := .tuple #[.int .i64 (lead s k).1, .string (s.extract k s.size), .agg #[.string (lead s k).2.1, .string (lead s k).2.2]]) (by simp [results, Try.results16, go_sem, hc, hz]) rfl ⟨by rw [HN.out]; rfl, endBelow HB.out _ _ _⟩
  · have q1 : ((s[0].toNat : Int) == 48) = true := by simpa using h3
    have q2 : ((s[1].toNat : Int) == 120) = false := by simpa using h4
    have q3 : ((s[1].toNat : Int) == 88) = false := by simpa using h5
    have h2' : (1 : Int) < s.size := by omega
    clear h3 h4 h5
    go_enter Try.func16, Try.ntmps16
    go_wp2_with (go_at_call 19; refine (isDigit_any _ _).mono ?_; rintro e w' ⟨rfl, hw'⟩; subst hw')
    go_loop [5] (fun i => ∃ k : Nat, 1 ≤ k ∧ k ≤ s.size ∧ i = .int .i64 k ∧ Hid (runEnd pDec s.data.toList 1 = runEnd pDec s.data.toList k)) (fun i => s.size - (intOf i).toNat)
    case atStart => exact ⟨1, Nat.le_refl _, by omega, rfl, rfl⟩
    case round =>
      obtain ⟨k, hk0, hk, rfl, HE⟩ := hrel
      by_cases hp : ∃ h : k < s.size, isDg (s[k].toNat : Int) = true
      · obtain ⟨hlt, hp⟩ := hp
        have HN : Hid (runEnd pDec s.data.toList k = runEnd pDec s.data.toList (k + 1)) := runEnd_step hlt hp
        have hlt' : (k : Int) < s.size := by omega
        go_wp2_with (go_at_call 19; refine (isDigit_any _ _).mono ?_; rintro e w' ⟨rfl, hw'⟩; subst hw')
        go_round
        case rel => exact ⟨k + 1, by omega, by omega, by go_num, HE.out.trans HN.out⟩
        case measure => simp [intOf]; omega
      · have HN : Hid (runEnd pDec s.data.toList 1 = k) := by
          refine HE.out.trans ?_
          by_cases hlt : k < s.size
          · exact runEnd_stop hlt (by cases h : pDec s[k]; rfl; exact absurd ⟨hlt, h⟩ hp)
          · exact runEnd_end (by omega)
        have HD : Hid (∀ wx, Calls Try.prog 22 #[.string (s.extract 0 k)] wx fun e w' => RetF (lead s k) e ∧ Below wx.heap.size wx w') := fun wx => dv_any _ wx (by have := HM.out; rw [ByteArray.size_extract]; omega) (by rw [ByteArray.size_extract]; omega)
        clear HE HM
        by_cases hlt : k < s.size
        · have hp' : isDg (s[k].toNat : Int) = false := by cases h : isDg (s[k].toNat : Int); rfl; exact absurd ⟨hlt, h⟩ hp
          have hlt' : (k : Int) < s.size := by omega
          clear hp
          go_wp2_with (go_at_call 19; refine (isDigit_any _ _).mono ?_; rintro e w' ⟨rfl, hw'⟩; subst hw')
          refine (HD.out _).mono ?_
          rintro e w1 ⟨he, hb⟩
          unfold RetF at he
          subst he
          obtain ⟨hc, hf⟩ := bcell hb
          have hz : w.heap.size < w1.heap.size := by have := hb.size; simp at this; omega
          have HB : Hid (Below (w.heap.size + 1) (w.alloc (Obj.cells #[Value.string { data := #[] }, Value.string { data := #[] }] 25)) w1) := by show Below (w.heap.size + 1) _ w1; simpa using hb
          clear hb
          go_wp2_with fail
          go_region
          all_goals go_wp2
          all_goals exact bodyPost_ret (v := .tuple #[.int .i64 (lead s k).1, .string (s.extract k s.size), .agg #[.string (lead s k).2.1, .string (lead s k).2.2]]) (by simp [results, Try.results16, go_sem, hc, hz]) rfl ⟨by rw [HN.out]; rfl, endBelow HB.out _ _ _⟩
        · clear hp
          go_wp2_with fail
          refine (HD.out _).mono ?_
          rintro e w1 ⟨he, hb⟩
          unfold RetF at he
          subst he
          obtain ⟨hc, hf⟩ := bcell hb
          have hz : w.heap.size < w1.heap.size := by have := hb.size; simp at this; omega
          have HB : Hid (Below (w.heap.size + 1) (w.alloc (Obj.cells #[Value.string { data := #[] }, Value.string { data := #[] }] 25)) w1) := by show Below (w.heap.size + 1) _ w1; simpa using hb
          clear hb
          go_wp2_with fail
          go_region
          all_goals go_wp2
          all_goals exact bodyPost_ret (v := .tuple #[.int .i64 (lead s k).1, .string (s.extract k s.size), .agg #[.string (lead s k).2.1, .string (lead s k).2.2]]) (by simp [results, Try.results16, go_sem, hc, hz]) rfl ⟨by rw [HN.out]; rfl, endBelow HB.out _ _ _⟩

set_option maxRecDepth 10000 in
set_option maxHeartbeats 2000000 in
theorem lead_hex (s : ByteArray) (w : World) (hs : s.size ≤ maxLen) (h2 : 1 < s.size) (h3 : (s[0].toNat : Int) = 48) (h4 : (s[1].toNat : Int) = 120 ∨ (s[1].toNat : Int) = 88) :
    Calls Try.prog 16 #[.string s] w fun e w' => RetL (lead s (runEnd pHex s.data.toList 2)).1 (s.extract (runEnd pHex s.data.toList 2) s.size) (lead s (runEnd pHex s.data.toList 2)).2.1 (lead s (runEnd pHex s.data.toList 2)).2.2 e ∧ Below w.heap.size w w' := by
  have HM : Hid (s.size ≤ maxLen) := hs
  unfold maxLen at hs
  have h0' : (0 : Int) < (s.size : Int) := by omega
  have h2' : (1 : Int) < s.size := by omega
  have h1 : isDg (s[0].toNat : Int) = true := (isDg_iff _).2 (by omega)
  have q1 : ((s[0].toNat : Int) == 48) = true := by simpa using h3
  clear h3
  rcases h4 with h4 | h4
  · have q2 : ((s[1].toNat : Int) == 120) = true := by simpa using h4
    clear h4
    go_enter Try.func16, Try.ntmps16
    go_wp2_with (go_at_call 19; refine (isDigit_any _ _).mono ?_; rintro e w' ⟨rfl, hw'⟩; subst hw')
    go_loop [5] (fun i => ∃ k : Nat, 2 ≤ k ∧ k ≤ s.size ∧ i = .int .i64 k ∧ Hid (runEnd pHex s.data.toList 2 = runEnd pHex s.data.toList k)) (fun i => s.size - (intOf i).toNat)
    case atStart => exact ⟨2, Nat.le_refl _, by omega, rfl, rfl⟩
    case round =>
      obtain ⟨k, hk0, hk, rfl, HE⟩ := hrel
      by_cases hlt : k < s.size
      · have hlt' : (k : Int) < s.size := by omega
        by_cases hp : isDg (s[k].toNat : Int) = true
        · have HN : Hid (runEnd pHex s.data.toList k = runEnd pHex s.data.toList (k + 1)) := runEnd_step hlt (by simp [pHex, hp])
          go_wp2_with (first | (go_at_call 19; refine (isDigit_any _ _).mono ?_; rintro e w' ⟨rfl, hw'⟩; subst hw') | (go_at_call 20; refine (isHex_any _ _).mono ?_; rintro e w' ⟨rfl, hw'⟩; subst hw'))
          go_round
          case rel => exact ⟨k + 1, by omega, by omega, by go_num, HE.out.trans HN.out⟩
          case measure => simp [intOf]; omega
        · have hp' : isDg (s[k].toNat : Int) = false := by simpa using hp
          clear hp
          by_cases hx : isHx (s[k].toNat : Int) = true
          · have HN : Hid (runEnd pHex s.data.toList k = runEnd pHex s.data.toList (k + 1)) := runEnd_step hlt (by simp [pHex, hx])
            go_wp2_with (first | (go_at_call 19; refine (isDigit_any _ _).mono ?_; rintro e w' ⟨rfl, hw'⟩; subst hw') | (go_at_call 20; refine (isHex_any _ _).mono ?_; rintro e w' ⟨rfl, hw'⟩; subst hw'))
            go_round
            case rel => exact ⟨k + 1, by omega, by omega, by go_num, HE.out.trans HN.out⟩
            case measure => simp [intOf]; omega
          · have hx' : isHx (s[k].toNat : Int) = false := by simpa using hx
            clear hx
            have HN : Hid (runEnd pHex s.data.toList 2 = k) := HE.out.trans (runEnd_stop hlt (by simp [pHex, hp', hx']))
            have HD : Hid (∀ wx, Calls Try.prog 22 #[.string (s.extract 0 k)] wx fun e w' => RetF (lead s k) e ∧ Below wx.heap.size wx w') := fun wx => dv_any _ wx (by have := HM.out; rw [ByteArray.size_extract]; omega) (by rw [ByteArray.size_extract]; omega)
            clear HE HM
            go_wp2_with (first | (go_at_call 19; refine (isDigit_any _ _).mono ?_; rintro e w' ⟨rfl, hw'⟩; subst hw') | (go_at_call 20; refine (isHex_any _ _).mono ?_; rintro e w' ⟨rfl, hw'⟩; subst hw'))
            refine (HD.out _).mono ?_
            rintro e w1 ⟨he, hb⟩
            unfold RetF at he
            subst he
            obtain ⟨hc, hf⟩ := bcell hb
            have hz : w.heap.size < w1.heap.size := by have := hb.size; simp at this; omega
            have HB : Hid (Below (w.heap.size + 1) (w.alloc (Obj.cells #[Value.string { data := #[] }, Value.string { data := #[] }] 25)) w1) := by show Below (w.heap.size + 1) _ w1; simpa using hb
            clear hb
            go_wp2_with fail
            go_region
            all_goals go_wp2
            all_goals exact bodyPost_ret (v := .tuple #[.int .i64 (lead s k).1, .string (s.extract k s.size), .agg #[.string (lead s k).2.1, .string (lead s k).2.2]]) (by simp [results, Try.results16, go_sem, hc, hz]) rfl ⟨by rw [HN.out]; rfl, endBelow HB.out _ _ _⟩
      · have HN : Hid (runEnd pHex s.data.toList 2 = k) := HE.out.trans (runEnd_end (by omega))
        have HD : Hid (∀ wx, Calls Try.prog 22 #[.string (s.extract 0 k)] wx fun e w' => RetF (lead s k) e ∧ Below wx.heap.size wx w') := fun wx => dv_any _ wx (by have := HM.out; rw [ByteArray.size_extract]; omega) (by rw [ByteArray.size_extract]; omega)
        clear HE HM
        go_wp2_with fail
        refine (HD.out _).mono ?_
        rintro e w1 ⟨he, hb⟩
        unfold RetF at he
        subst he
        obtain ⟨hc, hf⟩ := bcell hb
        have hz : w.heap.size < w1.heap.size := by have := hb.size; simp at this; omega
        have HB : Hid (Below (w.heap.size + 1) (w.alloc (Obj.cells #[Value.string { data := #[] }, Value.string { data := #[] }] 25)) w1) := by show Below (w.heap.size + 1) _ w1; simpa using hb
        clear hb
        go_wp2_with fail
        go_region
        all_goals go_wp2
        all_goals exact bodyPost_ret (v := .tuple #[.int .i64 (lead s k).1, .string (s.extract k s.size), .agg #[.string (lead s k).2.1, .string (lead s k).2.2]]) (by simp [results, Try.results16, go_sem, hc, hz]) rfl ⟨by rw [HN.out]; rfl, endBelow HB.out _ _ _⟩
  · have q2 : ((s[1].toNat : Int) == 120) = false := by simp; omega
    have q3 : ((s[1].toNat : Int) == 88) = true := by simpa using h4
    clear h4
    go_enter Try.func16, Try.ntmps16
    go_wp2_with (go_at_call 19; refine (isDigit_any _ _).mono ?_; rintro e w' ⟨rfl, hw'⟩; subst hw')
    go_loop [5] (fun i => ∃ k : Nat, 2 ≤ k ∧ k ≤ s.size ∧ i = .int .i64 k ∧ Hid (runEnd pHex s.data.toList 2 = runEnd pHex s.data.toList k)) (fun i => s.size - (intOf i).toNat)
    case atStart => exact ⟨2, Nat.le_refl _, by omega, rfl, rfl⟩
    case round =>
      obtain ⟨k, hk0, hk, rfl, HE⟩ := hrel
      by_cases hlt : k < s.size
      · have hlt' : (k : Int) < s.size := by omega
        by_cases hp : isDg (s[k].toNat : Int) = true
        · have HN : Hid (runEnd pHex s.data.toList k = runEnd pHex s.data.toList (k + 1)) := runEnd_step hlt (by simp [pHex, hp])
          go_wp2_with (first | (go_at_call 19; refine (isDigit_any _ _).mono ?_; rintro e w' ⟨rfl, hw'⟩; subst hw') | (go_at_call 20; refine (isHex_any _ _).mono ?_; rintro e w' ⟨rfl, hw'⟩; subst hw'))
          go_round
          case rel => exact ⟨k + 1, by omega, by omega, by go_num, HE.out.trans HN.out⟩
          case measure => simp [intOf]; omega
        · have hp' : isDg (s[k].toNat : Int) = false := by simpa using hp
          clear hp
          by_cases hx : isHx (s[k].toNat : Int) = true
          · have HN : Hid (runEnd pHex s.data.toList k = runEnd pHex s.data.toList (k + 1)) := runEnd_step hlt (by simp [pHex, hx])
            go_wp2_with (first | (go_at_call 19; refine (isDigit_any _ _).mono ?_; rintro e w' ⟨rfl, hw'⟩; subst hw') | (go_at_call 20; refine (isHex_any _ _).mono ?_; rintro e w' ⟨rfl, hw'⟩; subst hw'))
            go_round
            case rel => exact ⟨k + 1, by omega, by omega, by go_num, HE.out.trans HN.out⟩
            case measure => simp [intOf]; omega
          · have hx' : isHx (s[k].toNat : Int) = false := by simpa using hx
            clear hx
            have HN : Hid (runEnd pHex s.data.toList 2 = k) := HE.out.trans (runEnd_stop hlt (by simp [pHex, hp', hx']))
            have HD : Hid (∀ wx, Calls Try.prog 22 #[.string (s.extract 0 k)] wx fun e w' => RetF (lead s k) e ∧ Below wx.heap.size wx w') := fun wx => dv_any _ wx (by have := HM.out; rw [ByteArray.size_extract]; omega) (by rw [ByteArray.size_extract]; omega)
            clear HE HM
            go_wp2_with (first | (go_at_call 19; refine (isDigit_any _ _).mono ?_; rintro e w' ⟨rfl, hw'⟩; subst hw') | (go_at_call 20; refine (isHex_any _ _).mono ?_; rintro e w' ⟨rfl, hw'⟩; subst hw'))
            refine (HD.out _).mono ?_
            rintro e w1 ⟨he, hb⟩
            unfold RetF at he
            subst he
            obtain ⟨hc, hf⟩ := bcell hb
            have hz : w.heap.size < w1.heap.size := by have := hb.size; simp at this; omega
            have HB : Hid (Below (w.heap.size + 1) (w.alloc (Obj.cells #[Value.string { data := #[] }, Value.string { data := #[] }] 25)) w1) := by show Below (w.heap.size + 1) _ w1; simpa using hb
            clear hb
            go_wp2_with fail
            go_region
            all_goals go_wp2
            all_goals exact bodyPost_ret (v := .tuple #[.int .i64 (lead s k).1, .string (s.extract k s.size), .agg #[.string (lead s k).2.1, .string (lead s k).2.2]]) (by simp [results, Try.results16, go_sem, hc, hz]) rfl ⟨by rw [HN.out]; rfl, endBelow HB.out _ _ _⟩
      · have HN : Hid (runEnd pHex s.data.toList 2 = k) := HE.out.trans (runEnd_end (by omega))
        have HD : Hid (∀ wx, Calls Try.prog 22 #[.string (s.extract 0 k)] wx fun e w' => RetF (lead s k) e ∧ Below wx.heap.size wx w') := fun wx => dv_any _ wx (by have := HM.out; rw [ByteArray.size_extract]; omega) (by rw [ByteArray.size_extract]; omega)
        clear HE HM
        go_wp2_with fail
        refine (HD.out _).mono ?_
        rintro e w1 ⟨he, hb⟩
        unfold RetF at he
        subst he
        obtain ⟨hc, hf⟩ := bcell hb
        have hz : w.heap.size < w1.heap.size := by have := hb.size; simp at this; omega
        have HB : Hid (Below (w.heap.size + 1) (w.alloc (Obj.cells #[Value.string { data := #[] }, Value.string { data := #[] }] 25)) w1) := by show Below (w.heap.size + 1) _ w1; simpa using hb
        clear hb
        go_wp2_with fail
        go_region
        all_goals go_wp2
        all_goals exact bodyPost_ret (v := .tuple #[.int .i64 (lead s k).1, .string (s.extract k s.size), .agg #[.string (lead s k).2.1, .string (lead s k).2.2]]) (by simp [results, Try.results16, go_sem, hc, hz]) rfl ⟨by rw [HN.out]; rfl, endBelow HB.out _ _ _⟩
end Go.Proofs.Qxb6615880a
