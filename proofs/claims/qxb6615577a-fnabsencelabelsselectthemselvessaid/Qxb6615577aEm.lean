/- equalityModel (16). -/
import Derived.Test.Qxb6615577aIns
import Derived.BigQuiet
import Derived.Deep.RegionWith
namespace Go.Proofs.Qxb6615577a
open Go.RowKit

/-- The labels fixed whose name stands among the first k. -/
def InM (M : Nat → Mtc) (n k : Nat) (s v : ByteArray) : Prop := (v.toList ≠ [] ∧ Fixd M n s v) ∧ ∃ j, j < k ∧ (M j).eq = true ∧ (M j).nm = s

theorem InM.up {M : Nat → Mtc} {n k : Nat} {s v : ByteArray} (h : InM M n k s v) : InM M n (k + 1) s v := by
  obtain ⟨h1, j, hj, h2⟩ := h; exact ⟨h1, j, by omega, h2⟩
theorem InM_same {M : Nat → Mtc} {n k : Nat} (h : ∀ v, v.toList ≠ [] → Fixd M n (M k).nm v → (M k).eq = true → ∃ j, j < k ∧ (M j).eq = true ∧ (M j).nm = (M k).nm) (s v : ByteArray) : InM M n (k + 1) s v ↔ InM M n k s v := by
  refine ⟨fun hi => ?_, InM.up⟩
  obtain ⟨⟨h1, h2⟩, j, hj, he, hn⟩ := hi
  by_cases e : j = k
  · subst e; subst hn
    exact ⟨⟨h1, h2⟩, h v h1 h2 he⟩
  · exact ⟨⟨h1, h2⟩, j, by omega, he, hn⟩
theorem InM_new {M : Nat → Mtc} {n k : Nat} (hk : k < n) (he : (M k).eq = true) (hf : ∀ j, j < k → (M j).eq = true → (M j).nm ≠ (M k).nm) (ha : ∀ e, k < e → e < n → (M e).eq = true → (M e).nm = (M k).nm → (M e).vl = (M k).vl) (hv : (M k).vl.toList ≠ []) (s v : ByteArray) :
    InM M n (k + 1) s v ↔ (s = (M k).nm ∧ v = (M k).vl) ∨ InM M n k s v := by
  constructor
  · rintro ⟨⟨h1, h2⟩, j, hj, hej, hn⟩
    by_cases e : j = k
    · subst e; subst hn
      exact Or.inl ⟨rfl, (h2.2 j hk he rfl).symm⟩
    · exact Or.inr ⟨⟨h1, h2⟩, j, by omega, hej, hn⟩
  · rintro (⟨rfl, rfl⟩ | h)
    · refine ⟨⟨hv, ⟨k, hk, he, rfl⟩, fun j hj hej hn => ?_⟩, k, by omega, he, rfl⟩
      rcases Nat.lt_trichotomy j k with c | c | c
      · exact absurd hn (hf j c hej)
      · subst c; rfl
      · exact ha j c hj hej hn
    · exact h.up

/-- What equalityModel hands back. -/
def EmR (M : Nat → Mtc) (len k : Nat) (w w' : World) (so : Option Addr) (n sc : Nat) (r : Nat → Lab) : Prop :=
  Own8 w' w.heap.size so n sc r ∧ SP.Sorted ltN 0 n r ∧ Below w.heap.size w w' ∧ ∀ s v, (∃ j, j < n ∧ r j = (s, v)) ↔ InM M len k s v

theorem EmR.ext {M : Nat → Mtc} {len k n sc : Nat} {w w' : World} {so : Option Addr} {r : Nat → Lab} (h : EmR M len k w w' so n sc r) (x : ExtW w') : EmR M len k w x.w so n sc r :=
  ⟨h.1.kept x.h, h.2.1, h.2.2.1.trans (x.h.mono h.2.2.1.size), h.2.2.2⟩
theorem EmR.same {M : Nat → Mtc} {len k n sc : Nat} {w w' : World} {so : Option Addr} {r : Nat → Lab} (h : EmR M len k w w' so n sc r) (hs : ∀ v, v.toList ≠ [] → Fixd M len (M k).nm v → (M k).eq = true → ∃ j, j < k ∧ (M j).eq = true ∧ (M j).nm = (M k).nm) : EmR M len (k + 1) w w' so n sc r :=
  ⟨h.1, h.2.1, h.2.2.1, fun s v => (h.2.2.2 s v).trans (InM_same hs s v).symm⟩
theorem EmR.ins {M : Nat → Mtc} {len k n sc g cap : Nat} {w w' w2 : World} {so : Option Addr} {r r' : Nat → Lab} (h : EmR M len k w w' so n sc r) (hk : k < len) (he : (M k).eq = true) (hf : ∀ j, j < k → (M j).eq = true → (M j).nm ≠ (M k).nm) (ha : ∀ e, k < e → e < len → (M e).eq = true → (M e).nm = (M k).nm → (M e).vl = (M k).vl) (hv : (M k).vl.toList ≠ [])
    (hi : InsR w' w2 w.heap.size g n cap r ((M k).nm, (M k).vl) r') : EmR M len (k + 1) w w2 (some ⟨g, 0, none⟩) (n + 1) cap r' := by
  obtain ⟨i1, i2, i3, i4, i5, i6, i7⟩ := hi
  refine ⟨Or.inr ⟨g, rfl, i1, i2⟩, i3, h.2.2.1.trans i4, fun s v => ?_⟩
  rw [InM_new hk he hf ha hv]
  constructor
  · rintro ⟨j, hj, e⟩
    rcases i5 j hj with c | ⟨q, hq, c⟩
    · rw [e] at c; injection c with c1 c2; exact Or.inl ⟨c1, c2⟩
    · exact Or.inr ((h.2.2.2 s v).1 ⟨q, hq, by rw [← c, e]⟩)
  · rintro (⟨rfl, rfl⟩ | c)
    · exact i6
    · obtain ⟨q, hq, e⟩ := (h.2.2.2 s v).2 c
      obtain ⟨j, hj, e2⟩ := i7 q hq
      exact ⟨j, hj, by rw [e2, e]⟩
theorem EmR.names {M : Nat → Mtc} {len k n sc : Nat} {w w' : World} {so : Option Addr} {r : Nat → Lab} (h : EmR M len k w w' so n sc r) (hf : ∀ j, j < k → (M j).eq = true → (M j).nm ≠ (M k).nm) : ∀ j, j < n → (r j).1 ≠ ((M k).nm, (M k).vl).1 := fun j hj e => by
  obtain ⟨_, q, hq, he, hn⟩ := (h.2.2.2 (r j).1 (r j).2).1 ⟨j, hj, rfl⟩
  exact hf q hq he (hn.trans e)

/-- The three cells of matcher i, in every world grown out of wr. -/
theorem MIn.ext {w wr : World} {b off n : Nat} {M : Nat → Mtc} {i : Nat} {t : Int} {s v : ByteArray} (h : MIn w (some ⟨b, off, none⟩) n M) (hb : Below w.heap.size w wr) (hi : i < n) (hm : M i = ⟨t, s, v⟩) :
    (∀ x : ExtW wr, x.w.cell? ⟨b, off + i * 3, none⟩ = some (.int .i64 t)) ∧ (∀ x : ExtW wr, x.w.cell? ⟨b, off + i * 3 + 1, none⟩ = some (.string s)) ∧ (∀ x : ExtW wr, x.w.cell? ⟨b, off + i * 3 + 2, none⟩ = some (.string v)) ∧
    wr.cell? ⟨b, off + i * 3, none⟩ = some (.int .i64 t) ∧ wr.cell? ⟨b, off + i * 3 + 1, none⟩ = some (.string s) ∧ wr.cell? ⟨b, off + i * 3 + 2, none⟩ = some (.string v) := by
  have key : ∀ w', Below w.heap.size w w' → w'.cell? ⟨b, off + i * 3, none⟩ = some (.int .i64 t) ∧ w'.cell? ⟨b, off + i * 3 + 1, none⟩ = some (.string s) ∧ w'.cell? ⟨b, off + i * 3 + 2, none⟩ = some (.string v) := by
    intro w' hb'
    rcases h.below hb' with h0 | ⟨b2, off2, e, _, hc⟩
    · omega
    injection e with e
    injection e with e1 e2
    subst e1 e2
    obtain ⟨c0, c1, c2, _⟩ := hc i hi
    rw [hm] at c0 c1 c2
    exact ⟨c0, c1, c2⟩
  have hx : ∀ x : ExtW wr, Below w.heap.size w x.w := fun x => hb.trans (x.h.mono hb.size)
  exact ⟨fun x => (key _ (hx x)).1, fun x => (key _ (hx x)).2.1, fun x => (key _ (hx x)).2.2, key _ hb⟩

set_option maxRecDepth 10000 in
set_option maxHeartbeats 8000000 in
theorem em_any {w : World} {b off len cap : Nat} {M : Nat → Mtc} (h : MIn w (some ⟨b, off, none⟩) len M) (hl : len ≤ 4096) :
    Calls Try.prog 16 #[.slice (some ⟨b, off, none⟩) len cap] w fun e w' => ∃ so n sc r, e = .returned (.slice so n sc) ∧ Hid (EmR M len len w w' so n sc r) := by
  have H : Hid (MIn w (some ⟨b, off, none⟩) len M) := h
  clear h
  go_enter Try.func16, Try.ntmps16
  go_wp2_with fail
  go_loopw [3, 11] (fun x y wr => ∃ (k n sc : Nat) (so : Option Addr), k ≤ len ∧ n ≤ k ∧ x = .slice so n sc ∧ y = .int .i64 k ∧ Hid (∃ r, EmR M len k w wr so n sc r)) (fun _ y _ => len - (intOf y).toNat)
  case atStart => exact ⟨0, 0, 0, none, Nat.zero_le _, Nat.le_refl _, rfl, rfl, fun _ => (ByteArray.empty, ByteArray.empty), Or.inl ⟨rfl, rfl, rfl⟩, SP.Sorted.of_le_one _ (by omega), Below.refl _ _, fun s v => ⟨fun ⟨j, hj, _⟩ => by omega, fun ⟨_, j, hj, _⟩ => by omega⟩⟩
  case round =>
    obtain ⟨k, n, sc, so, hk, hnk, rfl, rfl, r, hR⟩ := hrel
    have HR : Hid (EmR M len k w wr so n sc r) := hR
    clear hR
    by_cases hlt : k < len
    · have hlt' : (k : Int) < len := by omega
      obtain ⟨⟨t, s, v⟩, hm⟩ : ∃ m, M k = m := ⟨_, rfl⟩
      have HM : Hid (M k = ⟨t, s, v⟩) := hm
      clear hm
      obtain ⟨_, _, _, c0, c1, c2⟩ := H.out.ext HR.out.2.2.1 hlt HM.out
      go_wp2_with fail
      refine (isEq_any ⟨t, s, v⟩ wr).mono ?_
      rintro e w1 ⟨rfl, hb1⟩
      have HR1 : Hid (EmR M len k w w1 so n sc r) := HR.out.ext ⟨w1, hb1⟩
      clear hb1 c0 c1 c2 HR
      cases heq : Mtc.eq ⟨t, s, v⟩
      · have HE : Hid (EmR M len (k + 1) w w1 so n sc r) := HR1.out.same (fun v _ _ he => by rw [HM.out, heq] at he; cases he)
        go_wp2_with fail
        go_roundw
        case rel => exact ⟨k + 1, n, sc, so, by omega, by omega, rfl, by go_num, r, HE.out⟩
        case measure => simp [intOf]; omega
      · have HQ : Hid (Mtc.eq ⟨t, s, v⟩ = true) := heq
        clear heq
        go_wp2_with fail
        go_loopw [5, 6] (fun z y wr => ∃ e : Nat, e ≤ k ∧ z = .bool true ∧ y = .int .i64 e ∧ Hid ((∀ j, j < e → (M j).eq = true → (M j).nm ≠ (M k).nm) ∧ EmR M len k w wr so n sc r)) (fun _ y _ => k - (intOf y).toNat)
        case atStart => exact ⟨0, Nat.zero_le _, rfl, rfl, fun j hj => by omega, HR1.out⟩
        case round =>
          clear HR1
          obtain ⟨e, he, rfl, rfl, hfirst, hR2⟩ := hrel
          have HR2 : Hid ((∀ j, j < e → (M j).eq = true → (M j).nm ≠ (M k).nm) ∧ EmR M len k w wr so n sc r) := ⟨hfirst, hR2⟩
          clear hfirst hR2
          obtain ⟨k0, k1, k2, d0, d1, d2⟩ := H.out.ext HR2.out.2.2.2.1 hlt HM.out
          by_cases hek : e < k
          · have hek' : (e : Int) < k := by omega
            have hel : (e : Int) < len := by omega
            obtain ⟨⟨t2, s2, v2⟩, hm2⟩ : ∃ m, M e = m := ⟨_, rfl⟩
            have HM2 : Hid (M e = ⟨t2, s2, v2⟩) := hm2
            clear hm2
            obtain ⟨x0, x1, x2, _, _, _⟩ := H.out.ext HR2.out.2.2.2.1 (i := e) (by omega) HM2.out
            cases heq2 : Mtc.eq ⟨t2, s2, v2⟩
            · have HN : Hid (∀ j, j < e + 1 → (M j).eq = true → (M j).nm ≠ (M k).nm) := fun j hj hej => by
                by_cases c : j = e
                · subst c; rw [HM2.out, heq2] at hej; cases hej
                · exact HR2.out.1 j (by omega) hej
              go_wp2_with fail
              refine wp_region_ext (by kernel_rfl) (by kernel_rfl) ?_
              repeat (go_big_quiet_step (exact isEq_ext heq2 _))
              refine wpQuiet_nil ?_
              intro _ hw'
              obtain ⟨x, hw''⟩ := hw'
              subst hw''
              go_wp2_with fail
              go_roundw
              case rel => exact ⟨e + 1, by omega, rfl, by go_num, HN.out, HR2.out.2.ext x⟩
              case measure => simp [intOf]; omega
            · cases hnn : (s2.toList == s.toList)
              · have HN : Hid (∀ j, j < e + 1 → (M j).eq = true → (M j).nm ≠ (M k).nm) := fun j hj hej => by
                  by_cases c : j = e
                  · subst c; rw [HM2.out, HM.out]; intro c2; subst c2; simp at hnn
                  · exact HR2.out.1 j (by omega) hej
                go_wp2_with fail
                refine wp_region_ext (by kernel_rfl) (by kernel_rfl) ?_
                repeat (go_big_quiet_step (exact isEq_ext heq2 _))
                refine wpQuiet_nil ?_
                intro _ hw'
                obtain ⟨x, hw''⟩ := hw'
                subst hw''
                go_wp2_with fail
                go_roundw
                case rel => exact ⟨e + 1, by omega, rfl, by go_num, HN.out, HR2.out.2.ext x⟩
                case measure => simp [intOf]; omega
              · have HE : Hid (EmR M len (k + 1) w wr so n sc r) := HR2.out.2.same (fun _ _ _ _ => ⟨e, hek, by rw [HM2.out]; exact heq2, by rw [HM2.out, HM.out]; exact toList_inj (by simpa using hnn)⟩)
                go_wp2_with fail
                refine wp_region_ext (by kernel_rfl) (by kernel_rfl) ?_
                repeat (go_big_quiet_step (exact isEq_ext heq2 _))
                refine wpQuiet_nil ?_
                intro _ hw'
                obtain ⟨x, hw''⟩ := hw'
                subst hw''
                go_wp2_with fail
                go_roundw
                case rel => exact ⟨k + 1, n, sc, so, by omega, by omega, rfl, by go_num, r, HE.out.ext x⟩
                case measure => simp [intOf]; omega
          · obtain rfl : e = k := by omega
            clear k0 k1 k2 d0 d1 d2
            have HR1 : Hid (EmR M len e w wr so n sc r) := HR2.out.2
            have HFst : Hid (∀ j, j < e → (M j).eq = true → (M j).nm ≠ (M e).nm) := HR2.out.1
            clear HR2
            go_wp2_with fail
            go_loopw [7, 8] (fun z y wr => ∃ q : Nat, e < q ∧ q ≤ len ∧ z = .bool true ∧ y = .int .i64 q ∧ Hid ((∀ j, e < j → j < q → (M j).eq = true → (M j).nm = (M e).nm → (M j).vl = (M e).vl) ∧ EmR M len e w wr so n sc r)) (fun _ y _ => len - (intOf y).toNat)
            case atStart => exact ⟨e + 1, by omega, by omega, rfl, by go_num, fun j hj => by omega, HR1.out⟩
            case round =>
              clear HR1
              obtain ⟨q, hq, hql, rfl, rfl, hagree, hR2⟩ := hrel
              have HR2 : Hid ((∀ j, e < j → j < q → (M j).eq = true → (M j).nm = (M e).nm → (M j).vl = (M e).vl) ∧ EmR M len e w wr so n sc r) := ⟨hagree, hR2⟩
              clear hagree hR2
              obtain ⟨k0, k1, k2, d0, d1, d2⟩ := H.out.ext HR2.out.2.2.2.1 hlt HM.out
              by_cases hqlt : q < len
              · have hqlt' : (q : Int) < len := by omega
                obtain ⟨⟨t2, s2, v2⟩, hm2⟩ : ∃ m, M q = m := ⟨_, rfl⟩
                have HM2 : Hid (M q = ⟨t2, s2, v2⟩) := hm2
                clear hm2
                obtain ⟨x0, x1, x2, _, _, _⟩ := H.out.ext HR2.out.2.2.2.1 (i := q) hqlt HM2.out
                cases heq2 : Mtc.eq ⟨t2, s2, v2⟩
                · have HN : Hid (∀ j, e < j → j < q + 1 → (M j).eq = true → (M j).nm = (M e).nm → (M j).vl = (M e).vl) := fun j h1 h2 h3 h4 => by
                    by_cases c : j = q
                    · subst c; rw [HM2.out, heq2] at h3; cases h3
                    · exact HR2.out.1 j h1 (by omega) h3 h4
                  go_wp2_with fail
                  refine wp_region_ext (by kernel_rfl) (by kernel_rfl) ?_
                  repeat (go_big_quiet_step (exact isEq_ext heq2 _))
                  refine wpQuiet_nil ?_
                  intro _ hw'
                  obtain ⟨x, hw''⟩ := hw'
                  subst hw''
                  go_wp2_with fail
                  go_roundw
                  case rel => exact ⟨q + 1, by omega, by omega, rfl, by go_num, HN.out, HR2.out.2.ext x⟩
                  case measure => simp [intOf]; omega
                · cases hnn : (s2.toList == s.toList)
                  · have HN : Hid (∀ j, e < j → j < q + 1 → (M j).eq = true → (M j).nm = (M e).nm → (M j).vl = (M e).vl) := fun j h1 h2 h3 h4 => by
                      by_cases c : j = q
                      · subst c; rw [HM2.out, HM.out] at h4
                        have h5 : s2 = s := h4
                        subst h5; simp at hnn
                      · exact HR2.out.1 j h1 (by omega) h3 h4
                    go_wp2_with fail
                    refine wp_region_ext (by kernel_rfl) (by kernel_rfl) ?_
                    repeat (go_big_quiet_step (exact isEq_ext heq2 _))
                    refine wpQuiet_nil ?_
                    intro _ hw'
                    obtain ⟨x, hw''⟩ := hw'
                    subst hw''
                    go_wp2_with fail
                    go_roundw
                    case rel => exact ⟨q + 1, by omega, by omega, rfl, by go_num, HN.out, HR2.out.2.ext x⟩
                    case measure => simp [intOf]; omega
                  · cases hvv : (v2.toList == v.toList)
                    · have HE : Hid (EmR M len (e + 1) w wr so n sc r) := HR2.out.2.same (fun u _ hu _ => by
                        have a1 := hu.2 e hlt (by rw [HM.out]; exact HQ.out) rfl
                        have a2 := hu.2 q hqlt (by rw [HM2.out]; exact heq2) (by rw [HM2.out, HM.out]; exact toList_inj (by simpa using hnn))
                        rw [HM.out] at a1
                        rw [HM2.out] at a2
                        have a3 : v2 = v := a2.trans a1.symm
                        subst a3; simp at hvv)
                      go_wp2_with fail
                      refine wp_region_ext (by kernel_rfl) (by kernel_rfl) ?_
                      repeat (go_big_quiet_step (exact isEq_ext heq2 _))
                      refine wpQuiet_nil ?_
                      intro _ hw'
                      obtain ⟨x, hw''⟩ := hw'
                      subst hw''
                      go_wp2_with fail
                      go_roundw
                      case rel => exact ⟨e + 1, n, sc, so, by omega, by omega, rfl, by go_num, r, HE.out.ext x⟩
                      case measure => simp [intOf]; omega
                    · have HN : Hid (∀ j, e < j → j < q + 1 → (M j).eq = true → (M j).nm = (M e).nm → (M j).vl = (M e).vl) := fun j h1 h2 h3 h4 => by
                        by_cases c : j = q
                        · subst c; rw [HM2.out, HM.out]; exact toList_inj (by simpa using hvv)
                        · exact HR2.out.1 j h1 (by omega) h3 h4
                      go_wp2_with fail
                      refine wp_region_ext (by kernel_rfl) (by kernel_rfl) ?_
                      repeat (go_big_quiet_step (exact isEq_ext heq2 _))
                      refine wpQuiet_nil ?_
                      intro _ hw'
                      obtain ⟨x, hw''⟩ := hw'
                      subst hw''
                      go_wp2_with fail
                      go_roundw
                      case rel => exact ⟨q + 1, by omega, by omega, rfl, by go_num, HN.out, HR2.out.2.ext x⟩
                      case measure => simp [intOf]; omega
              · obtain rfl : q = len := by omega
                clear k0 k1 k2
                cases hve : v.toList.isEmpty
                · have HD : Hid (Own8 wr.drew w.heap.size so n sc r ∧ w.heap.size ≤ wr.drew.heap.size ∧ SP.Sorted ltN 0 n r ∧ ∀ j, j < n → (r j).1 ≠ ((s, v) : Lab).1) := by
                    obtain ⟨h1, h2, h3, _⟩ := HR2.out.2
                    have h5 := HR2.out.2.names HFst.out
                    rw [HM.out] at h5
                    exact ⟨h1.kept ((Below.refl _ _).drew), h3.size, h2, h5⟩
                  have HX : Hid (∀ w2 g cap2 r2, InsR wr.drew w2 w.heap.size g n cap2 r (s, v) r2 → EmR M q (e + 1) w w2 (some ⟨g, 0, none⟩) (n + 1) cap2 r2) := fun w2 g cap2 r2 hI => by
                    have hR : EmR M q e w wr.drew so n sc r := HR2.out.2.ext ⟨wr.drew, (Below.refl _ _).drew⟩
                    refine hR.ins hlt (by rw [HM.out]; exact HQ.out) HFst.out HR2.out.1 (by rw [HM.out]; simpa using hve) ?_
                    rw [HM.out]; exact hI
                  go_wp2_with fail
                  go_region_with (refine (ins_any (s, v) HD.out.1 HD.out.2.1 (by omega) HD.out.2.2.1 HD.out.2.2.2).mono ?_; rintro e' w2 ⟨g, cap2, r2, rfl, hI⟩)
                  all_goals
                    go_wp2_with fail
                    go_roundw
                    case rel => exact ⟨e + 1, n + 1, _, _, by omega, by omega, rfl, by go_num, _, HX.out _ _ _ _ (Hid.out (by assumption))⟩
                    case measure => simp [intOf]; omega
                · have HE : Hid (EmR M q (e + 1) w wr so n sc r) := HR2.out.2.same (fun u hu1 hu _ => by
                    have a1 := hu.2 e hlt (by rw [HM.out]; exact HQ.out) rfl
                    rw [HM.out] at a1
                    have a3 : v = u := a1
                    subst a3; exact absurd (by simpa using hve) hu1)
                  go_wp2_with fail
                  go_roundw
                  case rel => exact ⟨e + 1, n, sc, so, by omega, by omega, rfl, by go_num, r, HE.out⟩
                  case measure => simp [intOf]; omega
    · obtain rfl : k = len := by omega
      go_wp2
      go_ret
      exact ⟨_, _, _, _, rfl, HR⟩
end Go.Proofs.Qxb6615577a
