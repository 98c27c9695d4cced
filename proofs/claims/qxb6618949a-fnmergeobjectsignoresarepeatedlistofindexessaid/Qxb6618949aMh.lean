import Derived.Test.Qxb6618949aMq
namespace Go.Proofs.Qxb6618949a
set_option linter.unusedVariables false
/-- The heap's order: by key, then by Index. -/
def Tab.Lt (T : Tab) (a b : Nat × Nat) : Prop := T.A a.1 a.2 < T.A b.1 b.2 ∨ (T.A a.1 a.2 = T.A b.1 b.2 ∧ a.1 < b.1)
theorem Tab.nlt_trans {T : Tab} {a b c : Nat × Nat} (h1 : ¬ T.Lt b a) (h2 : ¬ T.Lt c b) : ¬ T.Lt c a := by
  unfold Tab.Lt at *; omega
theorem Tab.nlt_refl {T : Tab} (a : Nat × Nat) : ¬ T.Lt a a := by unfold Tab.Lt; omega
theorem Tab.nlt_of_lt {T : Tab} {a b : Nat × Nat} (h : T.Lt a b) : ¬ T.Lt b a := by unfold Tab.Lt at *; omega
def swapE (E : Nat → Nat × Nat) (i j : Nat) : Nat → Nat × Nat := fun x => if x = i then E j else if x = j then E i else E x
theorem swapE_l (E : Nat → Nat × Nat) (i j : Nat) : swapE E i j i = E j := by unfold swapE; rw [if_pos rfl]
theorem swapE_r (E : Nat → Nat × Nat) (i j : Nat) : swapE E i j j = E i := by
  unfold swapE
  by_cases h : j = i
  · rw [if_pos h, h]
  · rw [if_neg h, if_pos rfl]
theorem swapE_o (E : Nat → Nat × Nat) {i j x : Nat} (h1 : x ≠ i) (h2 : x ≠ j) : swapE E i j x = E x := by unfold swapE; rw [if_neg h1, if_neg h2]
inductive Sws (n : Nat) (E : Nat → Nat × Nat) : (Nat → Nat × Nat) → Prop
  | refl : Sws n E E
  | step {E' : Nat → Nat × Nat} {i j : Nat} (h : Sws n E E') (hi : i < n) (hj : j < n) : Sws n E (swapE E' i j)
theorem Sws.trans {n : Nat} {E F G : Nat → Nat × Nat} (h : Sws n E F) (g : Sws n F G) : Sws n E G := by
  induction g with
  | refl => exact h
  | step _ hi hj ih => exact ih.step hi hj
theorem Sws.mono {n m : Nat} {E F : Nat → Nat × Nat} (h : Sws n E F) (hm : n ≤ m) : Sws m E F := by
  induction h with
  | refl => exact .refl
  | step _ hi hj ih => exact ih.step (by omega) (by omega)
theorem Sws.out {n : Nat} {E F : Nat → Nat × Nat} (h : Sws n E F) (x : Nat) (hx : n ≤ x) : F x = E x := by
  induction h with
  | refl => rfl
  | step _ hi hj ih => rw [swapE_o _ (by omega) (by omega)]; exact ih
def Tab.HeapFrom (T : Tab) (E : Nat → Nat × Nat) (n s : Nat) : Prop := ∀ c, 0 < c → c < n → s ≤ (c - 1) / 2 → ¬ T.Lt (E c) (E ((c - 1) / 2))
def Tab.DInv (T : Tab) (E : Nat → Nat × Nat) (n s i : Nat) : Prop :=
  (∀ c, 0 < c → c < n → s ≤ (c - 1) / 2 → (c - 1) / 2 ≠ i → ¬ T.Lt (E c) (E ((c - 1) / 2))) ∧
  (0 < i → s ≤ (i - 1) / 2 → ∀ c, 0 < c → c < n → (c - 1) / 2 = i → ¬ T.Lt (E c) (E ((i - 1) / 2)))
theorem Tab.dinv_start {T : Tab} {E : Nat → Nat × Nat} {n s : Nat} (h : T.HeapFrom E n (s + 1)) : T.DInv E n s s :=
  ⟨fun c h0 h1 h2 h3 => h c h0 h1 (by omega), fun h0 h1 => by omega⟩
theorem Tab.dinv_stop {T : Tab} {E : Nat → Nat × Nat} {n s i : Nat} (h : T.DInv E n s i) (hc : ∀ c, 0 < c → c < n → (c - 1) / 2 = i → ¬ T.Lt (E c) (E i)) : T.HeapFrom E n s := fun c h0 h1 h2 => by
  by_cases e : (c - 1) / 2 = i
  · rw [e]; exact hc c h0 h1 e
  · exact h.1 c h0 h1 h2 e
theorem Tab.dinv_step {T : Tab} {E : Nat → Nat × Nat} {n s i j : Nat} (h : T.DInv E n s i) (hsi : s ≤ i) (hj0 : 0 < j) (hj : j < n) (hji : (j - 1) / 2 = i) (hlt : T.Lt (E j) (E i))
    (hmin : ∀ c, 0 < c → c < n → (c - 1) / 2 = i → ¬ T.Lt (E c) (E j)) : T.DInv (swapE E i j) n s j := by
  refine ⟨fun c h0 h1 h2 h3 => ?_, fun h0 h1 c g0 g1 g2 => ?_⟩
  · by_cases e1 : (c - 1) / 2 = i
    · rw [e1, swapE_l]
      by_cases e2 : c = j
      · subst e2; rw [swapE_r]; exact Tab.nlt_of_lt hlt
      · rw [swapE_o E (by omega) e2]; exact hmin c h0 h1 e1
    · by_cases e2 : c = i
      · subst e2
        rw [swapE_l, swapE_o E (by omega) (by omega)]
        exact h.2 h0 h2 j hj0 hj hji
      · have e3 : c ≠ j := fun e => e1 (by rw [e]; exact hji)
        rw [swapE_o E e2 e3, swapE_o E e1 h3]
        exact h.1 c h0 h1 h2 e1
  · rw [hji, swapE_l, swapE_o E (by omega) (by omega)]
    have := h.1 c g0 g1 (by omega) (by omega)
    rw [g2] at this; exact this
theorem Tab.HeapFrom.root {T : Tab} {E : Nat → Nat × Nat} {n : Nat} (h : T.HeapFrom E n 0) (c : Nat) : c < n → ¬ T.Lt (E c) (E 0) := by
  induction c using Nat.strongRecOn with
  | ind c ih =>
    intro hc
    by_cases e : c = 0
    · subst e; exact Tab.nlt_refl _
    · exact Tab.nlt_trans (ih ((c - 1) / 2) (by omega) (by omega)) (h c (by omega) hc (Nat.zero_le _))
/-- The heap holds the next row of each Index that has rows left. -/
structure Tab.Cont (T : Tab) (p : Nat → Nat) (n : Nat) (E : Nat → Nat × Nat) : Prop where
  ok : ∀ t, t < n → (E t).1 < T.K ∧ (E t).2 = p (E t).1 ∧ p (E t).1 < T.N (E t).1
  all : ∀ k, k < T.K → p k < T.N k → ∃ t, t < n ∧ (E t).1 = k
  inj : ∀ s t, s < n → t < n → (E s).1 = (E t).1 → s = t
theorem Tab.Cont.swap {T : Tab} {p : Nat → Nat} {n : Nat} {E : Nat → Nat × Nat} (h : T.Cont p n E) {i j : Nat} (hi : i < n) (hj : j < n) : T.Cont p n (swapE E i j) := by
  -- where x comes from
  have hsrc : ∀ x, x < n → ∃ y, y < n ∧ swapE E i j x = E y ∧ (y = if x = i then j else if x = j then i else x) := fun x hx => by
    by_cases e1 : x = i
    · exact ⟨j, hj, by rw [e1, swapE_l], by rw [if_pos e1]⟩
    · by_cases e2 : x = j
      · exact ⟨i, hi, by rw [e2, swapE_r], by rw [if_neg e1, if_pos e2]⟩
      · exact ⟨x, hx, swapE_o E e1 e2, by rw [if_neg e1, if_neg e2]⟩
  refine ⟨fun t ht => ?_, fun k hk hp => ?_, fun s t hs ht e => ?_⟩
  · obtain ⟨y, hy, e, _⟩ := hsrc t ht
    rw [e]; exact h.ok y hy
  · obtain ⟨t, ht, e⟩ := h.all k hk hp
    by_cases e1 : t = i
    · exact ⟨j, hj, by rw [swapE_r, ← e1]; exact e⟩
    · by_cases e2 : t = j
      · exact ⟨i, hi, by rw [swapE_l, ← e2]; exact e⟩
      · exact ⟨t, ht, by rw [swapE_o E e1 e2]; exact e⟩
  · obtain ⟨y, hy, e1, d1⟩ := hsrc s hs
    obtain ⟨z, hz, e2, d2⟩ := hsrc t ht
    rw [e1, e2] at e
    have := h.inj y z hy hz e
    subst this
    by_cases c1 : s = i
    · rw [if_pos c1] at d1
      by_cases c2 : t = i
      · omega
      · rw [if_neg c2] at d2
        by_cases c3 : t = j
        · rw [if_pos c3] at d2; omega
        · rw [if_neg c3] at d2; omega
    · rw [if_neg c1] at d1
      by_cases c4 : s = j
      · rw [if_pos c4] at d1
        by_cases c2 : t = i
        · rw [if_pos c2] at d2; omega
        · rw [if_neg c2] at d2
          by_cases c3 : t = j
          · omega
          · rw [if_neg c3] at d2; omega
      · rw [if_neg c4] at d1
        by_cases c2 : t = i
        · rw [if_pos c2] at d2; omega
        · rw [if_neg c2] at d2
          by_cases c3 : t = j
          · rw [if_pos c3] at d2; omega
          · rw [if_neg c3] at d2; omega
theorem Tab.Cont.sws {T : Tab} {p : Nat → Nat} {n : Nat} {E F : Nat → Nat × Nat} (h : T.Cont p n E) (g : Sws n E F) : T.Cont p n F := by
  induction g with
  | refl => exact h
  | step _ hi hj ih => exact ih.swap hi hj
theorem Tab.Cont.min {T : Tab} {p : Nat → Nat} {n : Nat} {E : Nat → Nat × Nat} (h : T.Cont p n E) (hh : T.HeapFrom E n 0) (hn : 0 < n) : ∀ k', k' < T.K → p k' < T.N k' → T.Le (E 0).1 (p (E 0).1) k' (p k') := fun k' hk hp => by
  obtain ⟨t, ht, e⟩ := h.all k' hk hp
  have h1 := hh.root t ht
  have h2 := h.ok t ht
  have h0 := h.ok 0 hn
  rw [e] at h2
  unfold Tab.Lt at h1
  rw [h2.2.1, h0.2.1, e] at h1
  unfold Tab.Le
  omega
/-- The head's row moves on. -/
def next (E : Nat → Nat × Nat) : Nat → Nat × Nat := fun x => if x = 0 then ((E 0).1, (E 0).2 + 1) else E x
theorem next_zero (E : Nat → Nat × Nat) : next E 0 = ((E 0).1, (E 0).2 + 1) := by unfold next; rw [if_pos rfl]
theorem next_ne (E : Nat → Nat × Nat) {x : Nat} (h : x ≠ 0) : next E x = E x := by unfold next; rw [if_neg h]
theorem Tab.Cont.next {T : Tab} {p : Nat → Nat} {n : Nat} {E : Nat → Nat × Nat} (h : T.Cont p n E) (hn : 0 < n) (hp : p (E 0).1 + 1 < T.N (E 0).1) : T.Cont (bump p (E 0).1) n (next E) := by
  have hx : ∀ t, t < n → t ≠ 0 → (E t).1 ≠ (E 0).1 := fun t ht h0 e => h0 (h.inj t 0 ht hn e)
  have h1 : ∀ t, (Qxb6618949a.next E t).1 = (E t).1 := fun t => by
    by_cases e : t = 0
    · subst e; rw [next_zero]
    · rw [next_ne E e]
  refine ⟨fun t ht => ?_, fun k hk hp2 => ?_, fun s t hs ht e => ?_⟩
  · by_cases e : t = 0
    · subst e
      have h0 := h.ok 0 hn
      rw [next_zero]
      simp only [bump_same]
      exact ⟨h0.1, by rw [h0.2.1], hp⟩
    · rw [next_ne E e, bump_ne p (hx t ht e)]; exact h.ok t ht
  · by_cases e : k = (E 0).1
    · exact ⟨0, hn, by rw [h1, e]⟩
    · rw [bump_ne p e] at hp2
      obtain ⟨t, ht, et⟩ := h.all k hk hp2
      exact ⟨t, ht, by rw [h1]; exact et⟩
  · rw [h1, h1] at e; exact h.inj s t hs ht e
theorem Tab.HeapFrom.next {T : Tab} {E : Nat → Nat × Nat} {n : Nat} (h : T.HeapFrom E n 0) : T.HeapFrom (Qxb6618949a.next E) n 1 := fun c h0 h1 h2 => by
  rw [next_ne E (by omega), next_ne E (by omega)]; exact h c h0 h1 (Nat.zero_le _)
/-- The last entry, an Index's last row, is taken off. -/
theorem Tab.Cont.pop {T : Tab} {p : Nat → Nat} {n : Nat} {E : Nat → Nat × Nat} (h : T.Cont p (n + 1) E) (hp : ¬ p (E n).1 + 1 < T.N (E n).1) : T.Cont (bump p (E n).1) n E := by
  have hx : ∀ t, t < n → (E t).1 ≠ (E n).1 := fun t ht e => by have := h.inj t n (by omega) (by omega) e; omega
  refine ⟨fun t ht => ?_, fun k hk hp2 => ?_, fun s t hs ht e => h.inj s t (by omega) (by omega) e⟩
  · rw [bump_ne p (hx t ht)]; exact h.ok t (by omega)
  · by_cases e : k = (E n).1
    · rw [e, bump_same] at hp2; exact absurd hp2 hp
    · rw [bump_ne p e] at hp2
      obtain ⟨t, ht, et⟩ := h.all k hk hp2
      refine ⟨t, ?_, et⟩
      by_cases e3 : t = n
      · subst e3; exact absurd et.symm e
      · omega
theorem Tab.HeapFrom.pop {T : Tab} {E : Nat → Nat × Nat} {n : Nat} (h : T.HeapFrom E (n + 1) 0) : T.HeapFrom (swapE E 0 n) n 1 := fun c h0 h1 h2 => by
  rw [swapE_o E (by omega) (by omega), swapE_o E (by omega) (by omega)]; exact h c h0 (by omega) (Nat.zero_le _)
theorem Tab.HeapFrom.leaves {T : Tab} (E : Nat → Nat × Nat) {n s : Nat} (h : n / 2 ≤ s) : T.HeapFrom E n s := fun c h0 h1 h2 => by omega
end Go.Proofs.Qxb6618949a
