/- The plain theory of symMerge, at distinct keys. No Go in sight. -/
import Derived.Test.Qxb6615577aSortP
namespace Go.Proofs.Qxb6615577a.SP
variable {α : Type} {lt : α → α → Bool}

/-- Where symMerge looks. -/
def Idx (a m b mid s0 r0 : Nat) : Prop := a < m ∧ m < b ∧ mid = (a + b) / 2 ∧ ((mid < m ∧ s0 = mid + m - b ∧ r0 = mid) ∨ (m ≤ mid ∧ s0 = a ∧ r0 = m))

theorem Idx.at {a m b mid s0 r0 c : Nat} (h : Idx a m b mid s0 r0) (h1 : s0 ≤ c) (h2 : c < r0) : a ≤ c ∧ c < m ∧ m ≤ mid + m - 1 - c ∧ mid + m - 1 - c < b := by
  obtain ⟨h3, h4, h5, h | h⟩ := h <;> omega

theorem search_lo (O : Ord lt) {a m b mid s0 r0 c n : Nat} {d : Nat → α} (h : Idx a m b mid s0 r0) (hA : Sorted lt a m d) (hB : Sorted lt m b d) (hD : Dist lt n d) (hb : b ≤ n) (h1 : s0 ≤ c) (h2 : c < r0)
    (hl : lt (d (mid + m - 1 - c)) (d c) = false) : ∀ x, s0 ≤ x → x < c + 1 → lt (d x) (d (mid + m - 1 - x)) = true := by
  intro x x1 x2
  have hc := h.at h1 h2
  have hx := h.at x1 (by omega)
  have hlt : lt (d c) (d (mid + m - 1 - c)) = true := hD.lt_of_not (by omega) (by omega) (by omega) hl
  by_cases e : x = c
  · subst e; exact hlt
  · have a1 := hA x c (by omega) (by omega) (by omega)
    have a2 := hB (mid + m - 1 - c) (mid + m - 1 - x) (by omega) (by omega) (by omega)
    exact O.tr _ _ _ (O.tr _ _ _ a1 hlt) a2

theorem search_hi (O : Ord lt) {a m b mid s0 r0 c : Nat} {d : Nat → α} (h : Idx a m b mid s0 r0) (hA : Sorted lt a m d) (hB : Sorted lt m b d) (h1 : s0 ≤ c) (h2 : c < r0)
    (hl : lt (d (mid + m - 1 - c)) (d c) = true) : ∀ x, c ≤ x → x < r0 → lt (d (mid + m - 1 - x)) (d x) = true := by
  intro x x1 x2
  have hc := h.at h1 h2
  have hx := h.at (Nat.le_trans h1 x1) x2
  by_cases e : x = c
  · subst e; exact hl
  · have a1 := hA c x (by omega) (by omega) (by omega)
    have a2 := hB (mid + m - 1 - x) (mid + m - 1 - c) (by omega) (by omega) (by omega)
    exact O.tr _ _ _ (O.tr _ _ _ a2 hl) a1

/-- BEHIND THE ROTATION: four sorted runs; all of the first half lies below all of the second. -/
theorem rotated (O : Ord lt) {a m b mid s0 r0 s : Nat} {d : Nat → α} (h : Idx a m b mid s0 r0) (hA : Sorted lt a m d) (hB : Sorted lt m b d) (h1 : s0 ≤ s) (h2 : s ≤ r0)
    (hlo : ∀ x, s0 ≤ x → x < s → lt (d x) (d (mid + m - 1 - x)) = true) (hhi : ∀ x, s ≤ x → x < r0 → lt (d (mid + m - 1 - x)) (d x) = true) :
    a ≤ s ∧ s ≤ m ∧ s ≤ mid ∧ mid ≤ mid + m - s ∧ m ≤ mid + m - s ∧ mid + m - s ≤ b ∧
    Sorted lt a s (rot s m (mid + m - s) d) ∧ Sorted lt s mid (rot s m (mid + m - s) d) ∧ Sorted lt mid (mid + m - s) (rot s m (mid + m - s) d) ∧ Sorted lt (mid + m - s) b (rot s m (mid + m - s) d) ∧
    ∀ x y, a ≤ x → x < mid → mid ≤ y → y < b → lt (rot s m (mid + m - s) d x) (rot s m (mid + m - s) d y) = true := by
  have hs : a ≤ s ∧ s ≤ m ∧ s ≤ mid ∧ mid ≤ mid + m - s ∧ m ≤ mid + m - s ∧ mid + m - s ≤ b := by
    obtain ⟨h3, h4, h5, h | h⟩ := h <;> omega
  obtain ⟨i1, i2, i3, i4, i5, i6⟩ := hs
  have e1 : ∀ k, k < s → rot s m (mid + m - s) d k = d k := fun k hk => by unfold rot; rw [if_neg (by omega), if_neg (by omega)]
  have e2 : ∀ k, s ≤ k → k < mid → rot s m (mid + m - s) d k = d (m + (k - s)) := fun k hk hk' => by unfold rot; rw [if_pos (by omega)]
  have e3 : ∀ k, mid ≤ k → k < mid + m - s → rot s m (mid + m - s) d k = d (s + (k - mid)) := fun k hk hk' => by
    unfold rot; rw [if_neg (by omega), if_pos (by omega)]; congr 1; omega
  have e4 : ∀ k, mid + m - s ≤ k → rot s m (mid + m - s) d k = d k := fun k hk => by unfold rot; rw [if_neg (by omega), if_neg (by omega)]
  -- the two edges
  have low : ∀ x y, a ≤ x → x < s → mid + m - s ≤ y → y < b → lt (d x) (d y) = true := by
    intro x y x1 x2 y1 y2
    by_cases hedge : s0 < s
    · have hl := hlo (s - 1) (by omega) (by omega)
      have e : mid + m - 1 - (s - 1) = mid + m - s := by omega
      rw [e] at hl
      have f1 : x = s - 1 ∨ lt (d x) (d (s - 1)) = true := by
        by_cases hx : x = s - 1
        · exact Or.inl hx
        · exact Or.inr (hA x (s - 1) x1 (by omega) (by omega))
      have f2 : lt (d (s - 1)) (d y) = true := by
        by_cases hy : y = mid + m - s
        · rw [hy]; exact hl
        · exact O.tr _ _ _ hl (hB _ y (by omega) (by omega) y2)
      rcases f1 with rfl | f1
      · exact f2
      · exact O.tr _ _ _ f1 f2
    · obtain ⟨h3, h4, h5, h | h⟩ := h <;> omega
  have high : ∀ x y, s ≤ x → x < m → m ≤ y → y < mid + m - s → lt (d y) (d x) = true := by
    intro x y x1 x2 y1 y2
    by_cases hedge : s < r0
    · have hl := hhi s (Nat.le_refl _) hedge
      have f1 : y = mid + m - 1 - s ∨ lt (d y) (d (mid + m - 1 - s)) = true := by
        by_cases hy : y = mid + m - 1 - s
        · exact Or.inl hy
        · exact Or.inr (hB y _ y1 (by omega) (by omega))
      have f2 : lt (d (mid + m - 1 - s)) (d x) = true := by
        by_cases hx : x = s
        · rw [hx]; exact hl
        · exact O.tr _ _ _ hl (hA s x (by omega) (by omega) x2)
      rcases f1 with f1 | f1
      · rw [f1]; exact f2
      · exact O.tr _ _ _ f1 f2
    · obtain ⟨h3, h4, h5, h | h⟩ := h <;> omega
  refine ⟨i1, i2, i3, i4, i5, i6, ?_, ?_, ?_, ?_, ?_⟩
  · intro x y x1 x2 x3; rw [e1 x (by omega), e1 y x3]; exact hA x y x1 x2 (by omega)
  · intro x y x1 x2 x3; rw [e2 x x1 (by omega), e2 y (by omega) x3]; exact hB _ _ (by omega) (by omega) (by omega)
  · intro x y x1 x2 x3; rw [e3 x x1 (by omega), e3 y (by omega) x3]; exact hA _ _ (by omega) (by omega) (by omega)
  · intro x y x1 x2 x3; rw [e4 x x1, e4 y (by omega)]; exact hB x y (by omega) x2 x3
  · intro x y x1 x2 x3 x4
    by_cases c1 : x < s
    · rw [e1 x c1]
      by_cases c2 : y < mid + m - s
      · rw [e3 y x3 c2]; exact hA _ _ x1 (by omega) (by omega)
      · rw [e4 y (by omega)]; exact low x y x1 c1 (by omega) x4
    · rw [e2 x (by omega) x2]
      by_cases c2 : y < mid + m - s
      · rw [e3 y x3 c2]; exact high _ _ (by omega) (by omega) (by omega) (by omega)
      · rw [e4 y (by omega)]; exact hB _ _ (by omega) (by omega) x4

/-- THE HALVES SORTED, THE WHOLE IS. -/
theorem halves {a mid b : Nat} {e e1 e2 : Nat → α} (hx : ∀ x y, a ≤ x → x < mid → mid ≤ y → y < b → lt (e x) (e y) = true) (p1 : PermOn a mid e e1) (s1 : Sorted lt a mid e1) (p2 : PermOn mid b e1 e2) (s2 : Sorted lt mid b e2) : Sorted lt a b e2 := by
  intro x y x1 x2 x3
  by_cases c1 : y < mid
  · rw [p2.out (Or.inl (by omega)), p2.out (Or.inl c1)]; exact s1 x y x1 x2 c1
  · by_cases c2 : mid ≤ x
    · exact s2 x y c2 x2 x3
    · rw [p2.out (Or.inl (by omega))]
      obtain ⟨j, j1, j2, ej⟩ := p2.mem (i := y) (by omega) x3
      rw [ej, p1.out (Or.inr j1)]
      obtain ⟨k, k1, k2, ek⟩ := p1.mem (i := x) x1 (by omega)
      rw [ek]
      exact hx k j k1 k2 j1 j2

end Go.Proofs.Qxb6615577a.SP
