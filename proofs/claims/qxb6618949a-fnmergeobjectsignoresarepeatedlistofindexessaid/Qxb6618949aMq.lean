import Derived.Test.Qxb6618949aMp
namespace Go.Proofs.Qxb6618949a
set_option linter.unusedVariables false
/-- 'First', decided. -/
def Tab.fb (T : Tab) (k r : Nat) : Bool := (decide (r = 0) || decide (T.A k (r - 1) ≠ T.A k r)) && (List.range k).all fun k2 => (List.range (T.N k2)).all fun r2 => decide (T.A k2 r2 ≠ T.A k r)
theorem Tab.fb_iff (T : Tab) (k r : Nat) : T.fb k r = true ↔ T.First k r := by
  unfold Tab.fb Tab.First
  simp only [Bool.and_eq_true, Bool.or_eq_true, decide_eq_true_eq, List.all_eq_true, List.mem_range]
/-- The firsts among the first m rows of Index k. -/
def Tab.cr (T : Tab) (k : Nat) : Nat → Nat
  | 0 => 0
  | m + 1 => T.cr k m + (if T.fb k m then 1 else 0)
/-- The firsts among the first p k rows of each of the first m Indexes. -/
def Tab.ct (T : Tab) (p : Nat → Nat) : Nat → Nat
  | 0 => 0
  | m + 1 => T.ct p m + T.cr m (p m)
theorem Tab.ct_congr (T : Tab) {p q : Nat → Nat} : ∀ m, (∀ k, k < m → p k = q k) → T.ct p m = T.ct q m
  | 0, _ => rfl
  | m + 1, h => by simp only [Tab.ct]; rw [T.ct_congr m (fun k hk => h k (by omega)), h m (by omega)]
theorem Tab.ct_bump (T : Tab) (p : Nat → Nat) (k : Nat) : ∀ m, k < m → T.ct (bump p k) m = T.ct p m + (if T.fb k (p k) then 1 else 0)
  | 0, h => by omega
  | m + 1, h => by
    simp only [Tab.ct]
    by_cases e : k = m
    · subst e
      rw [bump_same, T.ct_congr (q := p) k (fun x hx => bump_ne p (by omega))]
      simp only [Tab.cr]; omega
    · rw [bump_ne p (by omega), T.ct_bump p k m (by omega)]; omega
theorem Tab.ct_zero (T : Tab) : ∀ m, T.ct (fun _ => 0) m = 0
  | 0 => rfl
  | m + 1 => by simp only [Tab.ct]; rw [T.ct_zero m]; rfl
/-- The rows in all. -/
def rows (p : Nat → Nat) : Nat → Nat
  | 0 => 0
  | m + 1 => rows p m + p m
theorem Tab.cr_le (T : Tab) (k : Nat) : ∀ m, T.cr k m ≤ m
  | 0 => Nat.le_refl _
  | m + 1 => by simp only [Tab.cr]; have := T.cr_le k m; split <;> omega
theorem Tab.ct_le (T : Tab) (p : Nat → Nat) : ∀ m, T.ct p m ≤ rows p m
  | 0 => Nat.le_refl _
  | m + 1 => by simp only [Tab.ct, rows]; have := T.ct_le p m; have := T.cr_le m (p m); omega
theorem rows_le {p q : Nat → Nat} : ∀ m, (∀ k, k < m → p k ≤ q k) → rows p m ≤ rows q m
  | 0, _ => Nat.le_refl _
  | m + 1, h => by simp only [rows]; have := rows_le m (fun k hk => h k (by omega)); have := h m (by omega); omega
theorem rows_lt {p q : Nat → Nat} {k : Nat} : ∀ m, k < m → (∀ k, k < m → p k ≤ q k) → p k < q k → rows p m < rows q m
  | 0, h, _, _ => by omega
  | m + 1, h, hl, hk => by
    simp only [rows]
    by_cases e : k = m
    · subst e
      have := rows_le k (fun x hx => hl x (by omega)); omega
    · have := rows_lt m (by omega) (fun x hx => hl x (by omega)) hk; have := hl m (by omega); omega
theorem rows_bump (p : Nat → Nat) (k : Nat) : ∀ m, k < m → rows (bump p k) m = rows p m + 1
  | 0, h => by omega
  | m + 1, h => by
    simp only [rows]
    by_cases e : k = m
    · subst e
      have : rows (bump p k) k = rows p k := Nat.le_antisymm (rows_le k (fun x hx => by rw [bump_ne p (by omega)]; exact Nat.le_refl _)) (rows_le k (fun x hx => by rw [bump_ne p (by omega)]; exact Nat.le_refl _))
      rw [bump_same, this]; omega
    · rw [bump_ne p (by omega), rows_bump p k m (by omega)]; omega
/-- What the merge gives in the end. -/
structure Tab.Merged (T : Tab) (n : Nat) (O : Nat → Nat × Nat) : Prop where
  num : n = T.ct T.N T.K
  bnd : ∀ t, t < n → (O t).1 < T.K ∧ (O t).2 < T.N (O t).1
  fst : ∀ t, t < n → T.First (O t).1 (O t).2
  asc : ∀ t, t + 1 < n → T.A (O t).1 (O t).2 < T.A (O (t + 1)).1 (O (t + 1)).2
  all : ∀ k r, k < T.K → r < T.N k → T.First k r → ∃ t, t < n ∧ O t = (k, r)
theorem Tab.Inv.done {T : Tab} {p : Nat → Nat} {n : Nat} {O : Nat → Nat × Nat} (h : T.Inv p n O) (hn : n = T.ct p T.K) (hp : ∀ k, k < T.K → ¬ p k < T.N k) : T.Merged n O := by
  have e : ∀ k, k < T.K → p k = T.N k := fun k hk => by have := h.le k hk; have := hp k hk; omega
  refine ⟨by rw [hn]; exact T.ct_congr _ e, fun t ht => ?_, h.fst, h.asc, fun k r hk hr hf => h.all k r hk (by rw [e k hk]; exact hr) hf⟩
  have := h.bnd t ht
  exact ⟨this.1, by rw [← e _ this.1]; exact this.2⟩
theorem Tab.Merged.lt {T : Tab} {n : Nat} {O : Nat → Nat × Nat} (h : T.Merged n O) {s : Nat} : ∀ d, s + (d + 1) < n → T.A (O s).1 (O s).2 < T.A (O (s + (d + 1))).1 (O (s + (d + 1))).2
  | 0, hd => h.asc s hd
  | d + 1, hd => Int.lt_trans (h.lt d (by omega)) (h.asc (s + (d + 1)) hd)
theorem Tab.Merged.mono {T : Tab} {n : Nat} {O : Nat → Nat × Nat} (h : T.Merged n O) {s t : Nat} (hs : s < t) (ht : t < n) : T.A (O s).1 (O s).2 < T.A (O t).1 (O t).2 := by
  have := h.lt (s := s) (t - s - 1) (by omega)
  rw [show s + (t - s - 1 + 1) = t by omega] at this; exact this
/-- The list of Indexes followed by itself. -/
def Tab.twice (T : Tab) : Tab := ⟨2 * T.K, fun k => if k < T.K then T.N k else T.N (k - T.K), fun k r => if k < T.K then T.A k r else T.A (k - T.K) r⟩
theorem Tab.twice_sorted {T : Tab} (h : T.Sorted) : T.twice.Sorted := fun k r hk hr => by
  simp only [Tab.twice] at *
  by_cases e : k < T.K
  · rw [if_pos e] at *; rw [if_pos e]; exact h k r e hr
  · rw [if_neg e] at *; rw [if_neg e]; exact h (k - T.K) r (by omega) hr
theorem Tab.twice_first {T : Tab} {k r : Nat} (hk : k < T.K) : T.twice.First k r ↔ T.First k r := by
  unfold Tab.First
  simp only [Tab.twice]
  rw [if_pos hk, if_pos hk]
  constructor
  · rintro ⟨h1, h2⟩
    refine ⟨h1, fun k2 e r2 hr => ?_⟩
    have := h2 k2 e r2 (by rw [if_pos (by omega)]; exact hr)
    rw [if_pos (by omega)] at this; exact this
  · rintro ⟨h1, h2⟩
    refine ⟨h1, fun k2 e r2 hr => ?_⟩
    rw [if_pos (by omega)] at hr ⊢
    exact h2 k2 e r2 hr
theorem Tab.twice_none {T : Tab} {k r : Nat} (hk : ¬ k < T.K) (h2 : k < 2 * T.K) (hr : r < T.twice.N k) : ¬ T.twice.First k r := fun h => by
  simp only [Tab.twice] at hr
  rw [if_neg hk] at hr
  have := h.2 (k - T.K) (by omega) r (by simp only [Tab.twice]; rw [if_pos (by omega)]; exact hr)
  simp only [Tab.twice] at this
  rw [if_pos (by omega), if_neg hk] at this
  exact this rfl
theorem Tab.cr_twice {T : Tab} {k : Nat} (hk : k < T.K) : ∀ m, T.twice.cr k m = T.cr k m
  | 0 => rfl
  | m + 1 => by
    simp only [Tab.cr]
    rw [Tab.cr_twice hk m]
    have : T.twice.fb k m = T.fb k m := by rw [Bool.eq_iff_iff, T.twice.fb_iff, T.fb_iff]; exact Tab.twice_first hk
    rw [this]
theorem Tab.cr_none {T : Tab} {k : Nat} (hk : ¬ k < T.K) (h2 : k < 2 * T.K) : ∀ m, m ≤ T.twice.N k → T.twice.cr k m = 0
  | 0, _ => rfl
  | m + 1, hm => by
    simp only [Tab.cr]
    rw [Tab.cr_none hk h2 m (by omega)]
    have : ¬ T.twice.fb k m = true := fun h => Tab.twice_none hk h2 (by omega) ((T.twice.fb_iff k m).1 h)
    rw [if_neg this]
theorem Tab.ct_twice1 {T : Tab} : ∀ m, m ≤ T.K → T.twice.ct T.twice.N m = T.ct T.N m
  | 0, _ => rfl
  | m + 1, h => by
    simp only [Tab.ct]
    have e : T.twice.N m = T.N m := by simp only [Tab.twice]; rw [if_pos (by omega)]
    rw [Tab.ct_twice1 m (by omega), Tab.cr_twice (by omega), e]
theorem Tab.ct_twice2 {T : Tab} : ∀ d, d ≤ T.K → T.twice.ct T.twice.N (T.K + d) = T.ct T.N T.K
  | 0, _ => Tab.ct_twice1 T.K (Nat.le_refl _)
  | d + 1, h => by
    rw [← Nat.add_assoc]
    simp only [Tab.ct]
    rw [Tab.ct_twice2 d (by omega), Tab.cr_none (by omega) (by omega) _ (Nat.le_refl _)]
    omega
/-- What the doubled list gives is what the list gives. -/
theorem Tab.Merged.same {T : Tab} {n m : Nat} {O Q : Nat → Nat × Nat} (h : T.Merged n O) (g : T.twice.Merged m Q) : m = n ∧ ∀ t, t < n → O t = Q t := by
  have hm : m = n := by
    rw [g.num, h.num]
    have := Tab.ct_twice2 (T := T) T.K (Nat.le_refl _)
    rw [show T.K + T.K = 2 * T.K by omega] at this
    exact this
  subst hm
  have hq : ∀ t, t < m → (Q t).1 < T.K ∧ T.twice.A (Q t).1 (Q t).2 = T.A (Q t).1 (Q t).2 ∧ (Q t).2 < T.N (Q t).1 := fun t ht => by
    have h1 := g.bnd t ht
    have h2 := g.fst t ht
    by_cases e : (Q t).1 < T.K
    · have h3 := h1.2
      simp only [Tab.twice] at h3 ⊢
      rw [if_pos e] at h3 ⊢
      exact ⟨e, rfl, h3⟩
    · exact absurd h2 (Tab.twice_none e h1.1 h1.2)
  have hex1 : ∀ t, t < m → ∃ s, s < m ∧ Q s = O t := fun t ht => by
    have h1 := h.bnd t ht
    obtain ⟨s, hs, es⟩ := g.all (O t).1 (O t).2 (by have := h1.1; simp only [Tab.twice]; omega) (by simp only [Tab.twice]; rw [if_pos h1.1]; exact h1.2) ((Tab.twice_first h1.1).2 (h.fst t ht))
    exact ⟨s, hs, es⟩
  have hex2 : ∀ t, t < m → ∃ s, s < m ∧ O s = Q t := fun t ht => by
    have h1 := hq t ht
    obtain ⟨s, hs, es⟩ := h.all (Q t).1 (Q t).2 h1.1 h1.2.2 ((Tab.twice_first h1.1).1 (g.fst t ht))
    exact ⟨s, hs, es⟩
  have hQm : ∀ s t, s < t → t < m → T.A (Q s).1 (Q s).2 < T.A (Q t).1 (Q t).2 := fun s t h1 h2 => by
    have := g.mono h1 h2
    rw [(hq s (by omega)).2.1, (hq t h2).2.1] at this; exact this
  refine ⟨rfl, fun t => ?_⟩
  induction t using Nat.strongRecOn with
  | ind t ih =>
    intro ht
    obtain ⟨s, hs, es⟩ := hex1 t ht
    obtain ⟨u, hu, eu⟩ := hex2 t ht
    have c1 : ¬ s < t := fun c => by
      have := ih s c hs
      rw [es] at this
      have h2 := h.mono c ht
      rw [this] at h2; omega
    have c2 : ¬ u < t := fun c => by
      have := ih u c hu
      rw [eu] at this
      have h2 := hQm u t c ht
      rw [← this] at h2; omega
    by_cases e1 : s = t
    · rw [← es, e1]
    · by_cases e2 : u = t
      · rw [← eu, e2]
      · exfalso
        have h1 := hQm t s (by omega) hs
        have h2 := h.mono (show t < u by omega) hu
        rw [es] at h1
        rw [eu] at h2
        omega
end Go.Proofs.Qxb6618949a
