/- The plain theory of the stable sort's parts, at distinct keys. No Go in sight. -/
namespace Go.Proofs.Qxb6615577a.SP

variable {α : Type}

/-- d' is d with the places of [a, b) moved about. -/
def PermOn (a b : Nat) (d d' : Nat → α) : Prop :=
  ∃ f g : Nat → Nat, (∀ i, f (g i) = i) ∧ (∀ i, g (f i) = i) ∧ (∀ i, a ≤ i → i < b → a ≤ f i ∧ f i < b) ∧ (∀ i, a ≤ i → i < b → a ≤ g i ∧ g i < b) ∧ (∀ i, i < a ∨ b ≤ i → f i = i) ∧ ∀ i, d' i = d (f i)

theorem PermOn.refl (a b : Nat) (d : Nat → α) : PermOn a b d d := ⟨id, id, fun _ => rfl, fun _ => rfl, fun _ h1 h2 => ⟨h1, h2⟩, fun _ h1 h2 => ⟨h1, h2⟩, fun _ _ => rfl, fun _ => rfl⟩

theorem PermOn.trans {a b : Nat} {d d' d'' : Nat → α} (h : PermOn a b d d') (k : PermOn a b d' d'') : PermOn a b d d'' := by
  obtain ⟨f, g, h1, h2, h3, h4, h5, h6⟩ := h
  obtain ⟨f', g', k1, k2, k3, k4, k5, k6⟩ := k
  refine ⟨fun i => f (f' i), fun i => g' (g i), fun i => ?_, fun i => ?_, fun i hi hj => ?_, fun i hi hj => ?_, fun i hi => ?_, fun i => ?_⟩
  · show f (f' (g' (g i))) = i; rw [k1, h1]
  · show g' (g (f (f' i))) = i; rw [h2, k2]
  · exact h3 _ (k3 i hi hj).1 (k3 i hi hj).2
  · exact k4 _ (h4 i hi hj).1 (h4 i hi hj).2
  · show f (f' i) = i; rw [k5 i hi, h5 i hi]
  · rw [k6, h6]

theorem PermOn.mono {a b a' b' : Nat} {d d' : Nat → α} (h : PermOn a b d d') (ha : a' ≤ a) (hb : b ≤ b') : PermOn a' b' d d' := by
  obtain ⟨f, g, h1, h2, h3, h4, h5, h6⟩ := h
  have hg : ∀ i, i < a ∨ b ≤ i → g i = i := fun i hi => by have := h5 i hi; rw [← this, h2, this]
  refine ⟨f, g, h1, h2, fun i hi hj => ?_, fun i hi hj => ?_, fun i hi => h5 i (by omega), h6⟩
  · by_cases hc : a ≤ i ∧ i < b
    · have := h3 i hc.1 hc.2; omega
    · rw [h5 i (by omega)]; exact ⟨hi, hj⟩
  · by_cases hc : a ≤ i ∧ i < b
    · have := h4 i hc.1 hc.2; omega
    · rw [hg i (by omega)]; exact ⟨hi, hj⟩

theorem PermOn.out {a b : Nat} {d d' : Nat → α} (h : PermOn a b d d') {i : Nat} (hi : i < a ∨ b ≤ i) : d' i = d i := by
  obtain ⟨f, g, _, _, _, _, h5, h6⟩ := h
  rw [h6, h5 i hi]
theorem PermOn.mem {a b : Nat} {d d' : Nat → α} (h : PermOn a b d d') {i : Nat} (hi : a ≤ i) (hj : i < b) : ∃ j, a ≤ j ∧ j < b ∧ d' i = d j := by
  obtain ⟨f, g, _, _, h3, _, _, h6⟩ := h
  exact ⟨f i, (h3 i hi hj).1, (h3 i hi hj).2, h6 i⟩
theorem PermOn.mem' {a b : Nat} {d d' : Nat → α} (h : PermOn a b d d') {i : Nat} (hi : a ≤ i) (hj : i < b) : ∃ j, a ≤ j ∧ j < b ∧ d i = d' j := by
  obtain ⟨f, g, h1, _, _, h4, _, h6⟩ := h
  exact ⟨g i, (h4 i hi hj).1, (h4 i hi hj).2, by rw [h6, h1]⟩

/-- Two places exchanged. -/
def swp (i j : Nat) (d : Nat → α) : Nat → α := fun k => if k = i then d j else if k = j then d i else d k

theorem PermOn.swap {a b i j : Nat} (d : Nat → α) (hi : a ≤ i) (hi' : i < b) (hj : a ≤ j) (hj' : j < b) : PermOn a b d (swp i j d) := by
  let f : Nat → Nat := fun k => if k = i then j else if k = j then i else k
  have hf : ∀ k, f (f k) = k := by
    intro k
    show (if (if k = i then j else if k = j then i else k) = i then j else if (if k = i then j else if k = j then i else k) = j then i else (if k = i then j else if k = j then i else k)) = k
    by_cases h1 : k = i
    · subst h1; by_cases h2 : j = k <;> simp [h2]
    · by_cases h2 : k = j
      · subst h2; simp [h1]
      · simp [h1, h2]
  refine ⟨f, f, hf, hf, fun k h1 h2 => ?_, fun k h1 h2 => ?_, fun k h => ?_, fun k => ?_⟩
  · show a ≤ (if k = i then j else if k = j then i else k) ∧ (if k = i then j else if k = j then i else k) < b
    split
    · exact ⟨hj, hj'⟩
    · split
      · exact ⟨hi, hi'⟩
      · exact ⟨h1, h2⟩
  · show a ≤ (if k = i then j else if k = j then i else k) ∧ (if k = i then j else if k = j then i else k) < b
    split
    · exact ⟨hj, hj'⟩
    · split
      · exact ⟨hi, hi'⟩
      · exact ⟨h1, h2⟩
  · show (if k = i then j else if k = j then i else k) = k
    rw [if_neg (by omega), if_neg (by omega)]
  · show swp i j d k = d (if k = i then j else if k = j then i else k)
    unfold swp
    split
    · rfl
    · split <;> rfl

section
variable (lt : α → α → Bool)

/-- A strict order. -/
structure Ord : Prop where
  irr : ∀ x, lt x x = false
  tr : ∀ x y z, lt x y = true → lt y z = true → lt x z = true

/-- Distinct keys. -/
def Dist (n : Nat) (d : Nat → α) : Prop := ∀ i j, i < n → j < n → i ≠ j → lt (d i) (d j) = true ∨ lt (d j) (d i) = true

def Sorted (a b : Nat) (d : Nat → α) : Prop := ∀ i j, a ≤ i → i < j → j < b → lt (d i) (d j) = true

variable {lt}
theorem Ord.asymm (O : Ord lt) {x y : α} (h : lt x y = true) : lt y x = false := by
  cases h' : lt y x
  · rfl
  · have := O.tr _ _ _ h h'; rw [O.irr] at this; cases this

theorem Dist.perm {n a b : Nat} {d d' : Nat → α} (h : Dist lt n d) (hp : PermOn a b d d') (hb : b ≤ n) : Dist lt n d' := by
  obtain ⟨f, g, h1, h2, h3, _, h5, h6⟩ := hp
  have hf : ∀ i, i < n → f i < n := fun i hi => by
    by_cases hc : a ≤ i ∧ i < b
    · have := h3 i hc.1 hc.2; omega
    · rw [h5 i (by omega)]; exact hi
  intro i j hi hj hne
  rw [h6, h6]
  exact h _ _ (hf i hi) (hf j hj) fun e => hne (by rw [← h2 i, ← h2 j, e])

theorem Dist.lt_of_not {n : Nat} {d : Nat → α} (h : Dist lt n d) {i j : Nat} (hi : i < n) (hj : j < n) (hne : i ≠ j) (hl : lt (d i) (d j) = false) : lt (d j) (d i) = true := by
  rcases h i j hi hj hne with h | h
  · rw [hl] at h; cases h
  · exact h

theorem Sorted.mono {a b a' b' : Nat} {d : Nat → α} (h : Sorted lt a b d) (ha : a ≤ a') (hb : b' ≤ b) : Sorted lt a' b' d := fun i j h1 h2 h3 => h i j (by omega) h2 (by omega)
theorem Sorted.congr {a b : Nat} {d d' : Nat → α} (h : Sorted lt a b d) (e : ∀ i, a ≤ i → i < b → d' i = d i) : Sorted lt a b d' := fun i j h1 h2 h3 => by rw [e i h1 (by omega), e j (by omega) h3]; exact h i j h1 h2 h3
theorem Sorted.of_le_one {a b : Nat} (d : Nat → α) (h : b ≤ a + 1) : Sorted lt a b d := fun i j h1 h2 h3 => by omega

/-! ### Insertion -/
/-- [a, i] but for place j is sorted, and what stands at j lies below all behind it. -/
def Ins (lt : α → α → Bool) (a i j : Nat) (e : Nat → α) : Prop := (∀ p q, a ≤ p → p < q → q ≤ i → p ≠ j → q ≠ j → lt (e p) (e q) = true) ∧ ∀ q, j < q → q ≤ i → lt (e j) (e q) = true

theorem Ins.start {a i : Nat} {e : Nat → α} (h : Sorted lt a i e) : Ins lt a i i e := ⟨fun p q h1 h2 h3 h4 h5 => h p q h1 h2 (by omega), fun q h1 h2 => by omega⟩

theorem Ins.step {a i j : Nat} {e : Nat → α} (h : Ins lt a i j e) (ha : a < j) (hj : j ≤ i) (hl : lt (e j) (e (j - 1)) = true) : Ins lt a i (j - 1) (swp j (j - 1) e) := by
  obtain ⟨h1, h2⟩ := h
  have e1 : ∀ k, k ≠ j → k ≠ j - 1 → swp j (j - 1) e k = e k := fun k k1 k2 => by unfold swp; rw [if_neg k1, if_neg k2]
  have e2 : swp j (j - 1) e j = e (j - 1) := by unfold swp; rw [if_pos rfl]
  have e3 : swp j (j - 1) e (j - 1) = e j := by unfold swp; rw [if_neg (by omega), if_pos rfl]
  refine ⟨fun p q p1 p2 p3 p4 p5 => ?_, fun q q1 q2 => ?_⟩
  · by_cases hp : p = j
    · subst hp; rw [e2, e1 q (by omega) p5]; exact h1 (p - 1) q (by omega) (by omega) p3 (by omega) (by omega)
    · by_cases hq : q = j
      · subst hq; rw [e2, e1 p hp p4]; exact h1 p (q - 1) p1 (by omega) (by omega) hp (by omega)
      · rw [e1 p hp p4, e1 q hq p5]; exact h1 p q p1 p2 p3 hp hq
  · rw [e3]
    by_cases hq : q = j
    · subst hq; rw [e2]; exact hl
    · rw [e1 q hq (by omega)]; exact h2 q (by omega) q2

theorem Ins.done (O : Ord lt) {a i j : Nat} {e : Nat → α} (h : Ins lt a i j e) (haj : a ≤ j) (hj : j ≤ i) (hl : j = a ∨ lt (e (j - 1)) (e j) = true) : Sorted lt a (i + 1) e := by
  obtain ⟨h1, h2⟩ := h
  intro p q p1 p2 p3
  by_cases hp : p = j
  · subst hp; exact h2 q p2 (by omega)
  · by_cases hq : q = j
    · subst hq
      rcases hl with hl | hl
      · omega
      · by_cases hpq : p = q - 1
        · subst hpq; exact hl
        · exact O.tr _ _ _ (h1 p (q - 1) p1 (by omega) (by omega) hp (by omega)) hl
    · exact h1 p q p1 p2 (by omega) hp hq

/-! ### One element moved along -/
def mvR (a k : Nat) (d : Nat → α) : Nat → α := fun x => if a ≤ x ∧ x < k then d (x + 1) else if x = k then d a else d x
def mvL (m k : Nat) (d : Nat → α) : Nat → α := fun x => if k < x ∧ x ≤ m then d (x - 1) else if x = k then d m else d x

theorem mvR_start (a : Nat) (d : Nat → α) : mvR a a d = d := by
  funext x; unfold mvR
  rw [if_neg (by omega)]
  split
  · rename_i h; rw [h]
  · rfl
theorem mvL_start (m : Nat) (d : Nat → α) : mvL m m d = d := by
  funext x; unfold mvL
  rw [if_neg (by omega)]
  split
  · rename_i h; rw [h]
  · rfl
theorem mvR_step {a k : Nat} (d : Nat → α) (h : a ≤ k) : swp k (k + 1) (mvR a k d) = mvR a (k + 1) d := by
  funext x
  unfold swp mvR
  by_cases h1 : x = k
  · subst h1
    rw [if_pos rfl, if_neg (by omega), if_neg (by omega), if_pos (by omega)]
  · rw [if_neg h1]
    by_cases h2 : x = k + 1
    · subst h2
      rw [if_pos rfl, if_neg (by omega), if_pos rfl, if_neg (by omega), if_pos rfl]
    · rw [if_neg h2]
      by_cases h3 : a ≤ x ∧ x < k
      · rw [if_pos h3, if_pos (by omega)]
      · rw [if_neg h3, if_neg h1, if_neg (by omega), if_neg h2]
theorem mvL_step {m k : Nat} (d : Nat → α) (h : k ≤ m) (h0 : 0 < k) : swp k (k - 1) (mvL m k d) = mvL m (k - 1) d := by
  funext x
  unfold swp mvL
  by_cases h1 : x = k
  · subst h1
    rw [if_pos rfl, if_neg (by omega), if_neg (by omega), if_pos (by omega)]
  · rw [if_neg h1]
    by_cases h2 : x = k - 1
    · subst h2
      rw [if_pos rfl, if_neg (by omega), if_pos rfl, if_neg (by omega), if_pos rfl]
    · rw [if_neg h2]
      by_cases h3 : k < x ∧ x ≤ m
      · rw [if_pos h3, if_pos (by omega)]
      · rw [if_neg h3, if_neg h1, if_neg (by omega), if_neg h2]

theorem merge1 {a b i : Nat} {d : Nat → α} (hs : Sorted lt (a + 1) b d) (hi : a + 1 ≤ i) (hib : i ≤ b) (h1 : ∀ h, a + 1 ≤ h → h < i → lt (d h) (d a) = true) (h2 : ∀ h, i ≤ h → h < b → lt (d a) (d h) = true) : Sorted lt a b (mvR a (i - 1) d) := by
  intro p q p1 p2 p3
  unfold mvR
  by_cases c1 : a ≤ p ∧ p < i - 1
  · rw [if_pos c1]
    by_cases c2 : a ≤ q ∧ q < i - 1
    · rw [if_pos c2]; exact hs _ _ (by omega) (by omega) (by omega)
    · rw [if_neg c2]
      by_cases c3 : q = i - 1
      · rw [if_pos c3]; exact h1 _ (by omega) (by omega)
      · rw [if_neg c3]; exact hs _ _ (by omega) (by omega) (by omega)
  · rw [if_neg c1, if_neg (by omega : ¬ (a ≤ q ∧ q < i - 1))]
    by_cases c3 : p = i - 1
    · rw [if_pos c3, if_neg (by omega)]; exact h2 _ (by omega) (by omega)
    · rw [if_neg c3, if_neg (by omega)]; exact hs _ _ (by omega) p2 p3

theorem merge2 {a m i : Nat} {d : Nat → α} (hs : Sorted lt a m d) (hi : a ≤ i) (him : i ≤ m) (h1 : ∀ h, a ≤ h → h < i → lt (d h) (d m) = true) (h2 : ∀ h, i ≤ h → h < m → lt (d m) (d h) = true) : Sorted lt a (m + 1) (mvL m i d) := by
  intro p q p1 p2 p3
  unfold mvL
  by_cases c1 : i < p ∧ p ≤ m
  · rw [if_pos c1, if_pos (by omega)]; exact hs _ _ (by omega) (by omega) (by omega)
  · rw [if_neg c1]
    by_cases c3 : p = i
    · rw [if_pos c3, if_pos (by omega)]; exact h2 _ (by omega) (by omega)
    · rw [if_neg c3]
      by_cases c2 : i < q ∧ q ≤ m
      · rw [if_pos c2]; exact hs _ _ p1 (by omega) (by omega)
      · rw [if_neg c2]
        by_cases c4 : q = i
        · rw [if_pos c4]; exact h1 _ p1 (by omega)
        · rw [if_neg c4]; exact hs _ _ p1 p2 (by omega)

/-! ### Ranges exchanged; a rotation -/
def sr (a b n : Nat) (d : Nat → α) : Nat → α := fun k => if a ≤ k ∧ k < a + n then d (b + (k - a)) else if b ≤ k ∧ k < b + n then d (a + (k - b)) else d k
def rot (a m b : Nat) (d : Nat → α) : Nat → α := fun k => if a ≤ k ∧ k < a + (b - m) then d (m + (k - a)) else if a + (b - m) ≤ k ∧ k < b then d (a + (k - (a + (b - m)))) else d k

theorem sr_start (a b : Nat) (d : Nat → α) : sr a b 0 d = d := by
  funext k; unfold sr; rw [if_neg (by omega), if_neg (by omega)]
theorem sr_step {a b i n : Nat} (d : Nat → α) (hi : i < n) (hab : a + n ≤ b) : swp (a + i) (b + i) (sr a b i d) = sr a b (i + 1) d := by
  funext k
  unfold swp sr
  by_cases h1 : k = a + i
  · subst h1
    rw [if_pos rfl, if_neg (by omega), if_neg (by omega), if_pos (by omega)]
    congr 1; omega
  · rw [if_neg h1]
    by_cases h2 : k = b + i
    · subst h2
      rw [if_pos rfl, if_neg (by omega), if_neg (by omega), if_neg (by omega), if_pos (by omega)]
      congr 1; omega
    · rw [if_neg h2]
      by_cases h3 : a ≤ k ∧ k < a + i
      · rw [if_pos h3, if_pos (by omega)]
      · rw [if_neg h3]
        by_cases h4 : b ≤ k ∧ k < b + i
        · rw [if_pos h4, if_neg (by omega), if_pos (by omega)]
        · rw [if_neg h4, if_neg (by omega), if_neg (by omega)]

theorem rot_gt {m i j : Nat} (d : Nat → α) (hij : j < i) (him : i ≤ m) : rot (m - i) m (m + j) d = rot (m - (i - j)) m (m + j) (sr (m - i) m j d) := by
  funext k
  unfold rot sr
  by_cases c1 : m - i ≤ k ∧ k < m - i + j
  · rw [if_pos (by omega), if_neg (by omega), if_neg (by omega), if_pos (by omega)]
  · by_cases c2 : m - (i - j) ≤ k ∧ k < m
    · rw [if_neg (by omega), if_pos (by omega)]
      by_cases c3 : k < m - (i - j) + j
      · rw [if_pos (by omega), if_neg (by omega), if_pos (by omega)]
        congr 1; omega
      · rw [if_neg (by omega), if_pos (by omega), if_neg (by omega), if_neg (by omega)]
        congr 1; omega
    · by_cases c4 : m ≤ k ∧ k < m + j
      · rw [if_neg (by omega), if_pos (by omega)]
        by_cases c5 : k < m - (i - j) + j
        · rw [if_pos (by omega), if_neg (by omega), if_pos (by omega)]
          congr 1; omega
        · rw [if_neg (by omega), if_pos (by omega), if_neg (by omega), if_neg (by omega)]
          congr 1; omega
      · rw [if_neg (by omega), if_neg (by omega), if_neg (by omega), if_neg (by omega), if_neg (by omega), if_neg (by omega)]

theorem rot_lt {m i j : Nat} (d : Nat → α) (hij : i < j) (him : i ≤ m) : rot (m - i) m (m + j) d = rot (m - i) m (m + (j - i)) (sr (m - i) (m + j - i) i d) := by
  funext k
  unfold rot sr
  by_cases c1 : m - i ≤ k ∧ k < m - i + j
  · rw [if_pos (by omega)]
    by_cases c2 : k < m - i + (j - i)
    · rw [if_pos (by omega)]
      by_cases c3 : k < m
      · by_cases c4 : m + (k - (m - i)) < m + j - i
        · rw [if_neg (by omega), if_neg (by omega)]
        · rw [if_neg (by omega), if_pos (by omega)]
          exfalso; omega
      · by_cases c4 : m + (k - (m - i)) < m + j - i
        · rw [if_neg (by omega), if_neg (by omega)]
        · exfalso; omega
    · rw [if_neg (by omega)]
      by_cases c5 : k < m + (j - i)
      · rw [if_pos (by omega), if_pos (by omega)]
        congr 1; omega
      · exfalso; omega
  · by_cases c2 : m - i + j ≤ k ∧ k < m + j
    · rw [if_neg (by omega), if_pos (by omega), if_neg (by omega), if_neg (by omega), if_neg (by omega), if_pos (by omega)]
      congr 1; omega
    · rw [if_neg (by omega), if_neg (by omega), if_neg (by omega), if_neg (by omega), if_neg (by omega), if_neg (by omega)]

theorem rot_eq {m i : Nat} (d : Nat → α) (him : i ≤ m) : rot (m - i) m (m + i) d = sr (m - i) m i d := by
  funext k
  unfold rot sr
  by_cases c1 : m - i ≤ k ∧ k < m - i + i
  · rw [if_pos (by omega), if_pos c1]
  · rw [if_neg (by omega), if_neg c1]
    by_cases c2 : m ≤ k ∧ k < m + i
    · rw [if_pos (by omega), if_pos c2]; congr 1; omega
    · rw [if_neg (by omega), if_neg c2]

theorem rot_none {a m b : Nat} (d : Nat → α) (h : a = m ∨ m = b) : rot a m b d = d := by
  funext k
  unfold rot
  rcases h with rfl | rfl
  · by_cases c : a ≤ k ∧ k < a + (b - a)
    · rw [if_pos c]; congr 1; omega
    · rw [if_neg c]
      by_cases c2 : a + (b - a) ≤ k ∧ k < b
      · exfalso; omega
      · rw [if_neg c2]
  · by_cases c : a ≤ k ∧ k < a + (m - m)
    · exfalso; omega
    · rw [if_neg c]
      by_cases c2 : a + (m - m) ≤ k ∧ k < m
      · rw [if_pos c2]; congr 1; omega
      · rw [if_neg c2]

end
end Go.Proofs.Qxb6615577a.SP
