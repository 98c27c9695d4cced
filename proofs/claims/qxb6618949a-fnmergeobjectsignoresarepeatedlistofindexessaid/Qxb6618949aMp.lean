import Derived.Test.Qxb6618949aNe
namespace Go.Proofs.Qxb6618949a
set_option linter.unusedVariables false
/-- The number that n bytes spell in base 256. -/
def key (X : Nat → Int) : Nat → Int
  | 0 => 0
  | n + 1 => key X n * 256 + X n
theorem lexF_key {X Y : Nat → Int} : ∀ n, (∀ i, i < n → 0 ≤ X i ∧ X i ≤ 255) → (∀ i, i < n → 0 ≤ Y i ∧ Y i ≤ 255) →
    (lexF X Y n = -1 ∧ key X n < key Y n) ∨ (lexF X Y n = 0 ∧ key X n = key Y n) ∨ (lexF X Y n = 1 ∧ key Y n < key X n)
  | 0, _, _ => .inr (.inl ⟨rfl, rfl⟩)
  | n + 1, hX, hY => by
    have h := lexF_key n (fun i hi => hX i (by omega)) (fun i hi => hY i (by omega))
    have a := hX n (by omega)
    have b := hY n (by omega)
    simp only [lexF, key]
    rcases h with ⟨e, g⟩ | ⟨e, g⟩ | ⟨e, g⟩
    · left; rw [if_neg (by omega)]; exact ⟨e, by omega⟩
    · rw [if_pos e]
      by_cases c1 : X n < Y n
      · left; rw [if_pos c1]; exact ⟨rfl, by omega⟩
      · rw [if_neg c1]
        by_cases c2 : Y n < X n
        · right; right; rw [if_pos c2]; exact ⟨rfl, by omega⟩
        · right; left; rw [if_neg c2]; exact ⟨rfl, by omega⟩
    · right; right; rw [if_neg (by omega)]; exact ⟨e, by omega⟩
theorem key_congr {X Y : Nat → Int} : ∀ n, (∀ i, i < n → X i = Y i) → key X n = key Y n
  | 0, _ => rfl
  | n + 1, h => by simp only [key]; rw [key_congr n (fun i hi => h i (by omega)), h n (by omega)]
theorem key_inj {X Y : Nat → Int} {n : Nat} (hX : ∀ i, i < n → 0 ≤ X i ∧ X i ≤ 255) (hY : ∀ i, i < n → 0 ≤ Y i ∧ Y i ≤ 255) (h : key X n = key Y n) : ∀ i, i < n → X i = Y i := by
  rcases lexF_key n hX hY with ⟨e, g⟩ | ⟨e, g⟩ | ⟨e, g⟩
  · omega
  · have hl := lexF_is X Y n
    rw [e] at hl
    rcases hl with ⟨_, hl⟩ | ⟨hl, _⟩ | ⟨hl, _⟩
    · exact hl
    · omega
    · omega
  · omega
/-- The tables: K Indexes, N k rows each, A k r the key of row r of Index k. -/
structure Tab where
  K : Nat
  N : Nat → Nat
  A : Nat → Nat → Int
def Tab.Sorted (T : Tab) : Prop := ∀ k r, k < T.K → r + 1 < T.N k → T.A k r ≤ T.A k (r + 1)
theorem Tab.Sorted.le {T : Tab} (h : T.Sorted) {k : Nat} (hk : k < T.K) (r : Nat) : ∀ d, r + d < T.N k → T.A k r ≤ T.A k (r + d)
  | 0, _ => Int.le_refl _
  | d + 1, hd => Int.le_trans (h.le hk r d (by omega)) (h k (r + d) hk (by omega))
theorem Tab.Sorted.mono {T : Tab} (h : T.Sorted) {k r s : Nat} (hk : k < T.K) (hr : r ≤ s) (hs : s < T.N k) : T.A k r ≤ T.A k s := by
  have := h.le hk r (s - r) (by omega)
  rw [show r + (s - r) = s by omega] at this; exact this
/-- Row r of Index k is the first row of its name. -/
def Tab.First (T : Tab) (k r : Nat) : Prop := (r = 0 ∨ T.A k (r - 1) ≠ T.A k r) ∧ ∀ k2, k2 < k → ∀ r2, r2 < T.N k2 → T.A k2 r2 ≠ T.A k r
/-- By key, then by Index. -/
def Tab.Le (T : Tab) (k r k' r' : Nat) : Prop := T.A k r < T.A k' r' ∨ (T.A k r = T.A k' r' ∧ k ≤ k')
/-- The merge in its midst: p the pointers, O the objects so far (n of them). -/
structure Tab.Inv (T : Tab) (p : Nat → Nat) (n : Nat) (O : Nat → Nat × Nat) : Prop where
  le : ∀ k, k < T.K → p k ≤ T.N k
  ord : ∀ k r, k < T.K → r < p k → ∀ k', k' < T.K → p k' < T.N k' → T.Le k r k' (p k')
  bnd : ∀ t, t < n → (O t).1 < T.K ∧ (O t).2 < p (O t).1
  fst : ∀ t, t < n → T.First (O t).1 (O t).2
  asc : ∀ t, t + 1 < n → T.A (O t).1 (O t).2 < T.A (O (t + 1)).1 (O (t + 1)).2
  last : ∀ k r, k < T.K → r < p k → 0 < n ∧ T.A k r ≤ T.A (O (n - 1)).1 (O (n - 1)).2
  all : ∀ k r, k < T.K → r < p k → T.First k r → ∃ t, t < n ∧ O t = (k, r)
theorem Tab.inv_zero (T : Tab) (O : Nat → Nat × Nat) : T.Inv (fun _ => 0) 0 O where
  le := fun _ _ => Nat.zero_le _
  ord := fun k r _ h => by omega
  bnd := fun t h => by omega
  fst := fun t h => by omega
  asc := fun t h => by omega
  last := fun k r _ h => by omega
  all := fun k r _ h => by omega
/-- The pointer of Index k moves on. -/
def bump (p : Nat → Nat) (k : Nat) : Nat → Nat := fun x => if x = k then p k + 1 else p x
theorem bump_same (p : Nat → Nat) (k : Nat) : bump p k k = p k + 1 := by unfold bump; rw [if_pos rfl]
theorem bump_ne (p : Nat → Nat) {k x : Nat} (h : x ≠ k) : bump p k x = p x := by unfold bump; rw [if_neg h]
def put (O : Nat → Nat × Nat) (n : Nat) (o : Nat × Nat) : Nat → Nat × Nat := fun x => if x = n then o else O x
theorem put_same (O : Nat → Nat × Nat) (n : Nat) (o : Nat × Nat) : put O n o n = o := by unfold put; rw [if_pos rfl]
theorem put_ne (O : Nat → Nat × Nat) {n x : Nat} (o : Nat × Nat) (h : x ≠ n) : put O n o x = O x := by unfold put; rw [if_neg h]
/-- The least head: it is new exactly when it is a first. -/
theorem Tab.Inv.new_iff {T : Tab} {p : Nat → Nat} {n : Nat} {O : Nat → Nat × Nat} (hs : T.Sorted) (h : T.Inv p n O) {k : Nat} (hk : k < T.K) (hp : p k < T.N k)
    (hmin : ∀ k', k' < T.K → p k' < T.N k' → T.Le k (p k) k' (p k')) :
    (n = 0 ∨ T.A k (p k) ≠ T.A (O (n - 1)).1 (O (n - 1)).2) ↔ T.First k (p k) := by
  have hbig : ∀ k' r', k' < T.K → r' < p k' → T.A k' r' ≤ T.A k (p k) := fun k' r' h1 h2 => by
    rcases h.ord k' r' h1 h2 k hk hp with g | g <;> omega
  constructor
  · intro hn
    have hgt : ∀ k' r', k' < T.K → r' < p k' → T.A k' r' < T.A k (p k) := fun k' r' h1 h2 => by
      have h3 := h.last k' r' h1 h2
      have h4 := h.bnd (n - 1) (by omega)
      have h5 := hbig _ _ h4.1 h4.2
      rcases hn with g | g
      · omega
      · omega
    refine ⟨?_, fun k2 h2 r2 hr2 => ?_⟩
    · by_cases e : p k = 0
      · exact .inl e
      · right
        have := hgt k (p k - 1) hk (by omega)
        omega
    · by_cases g : r2 < p k2
      · have := hgt k2 r2 (by omega) g
        omega
      · have h3 := hs.mono (k := k2) (r := p k2) (s := r2) (by omega) (by omega) hr2
        have h4 := hmin k2 (by omega) (by omega)
        rcases h4 with g | g <;> omega
  · rintro ⟨h1, h2⟩
    by_cases e : n = 0
    · exact .inl e
    · right
      intro heq
      have hb := h.bnd (n - 1) (by omega)
      have ho := h.ord _ _ hb.1 hb.2 k hk hp
      rcases ho with g | ⟨g, gk⟩
      · omega
      · by_cases e2 : (O (n - 1)).1 = k
        · rw [e2] at hb heq
          rcases h1 with g0 | g0
          · omega
          · have m1 := hs.mono (k := k) (r := (O (n - 1)).2) (s := p k - 1) hk (by omega) (by omega)
            have m2 := hs.mono (k := k) (r := p k - 1) (s := p k) hk (by omega) hp
            omega
        · have hN := h.le _ hb.1
          exact h2 _ (by omega) _ (by omega) heq.symm
theorem Tab.Inv.ord_step {T : Tab} {p : Nat → Nat} {n : Nat} {O : Nat → Nat × Nat} (hs : T.Sorted) (h : T.Inv p n O) {k : Nat} (hk : k < T.K) (hp : p k < T.N k)
    (hmin : ∀ k', k' < T.K → p k' < T.N k' → T.Le k (p k) k' (p k')) : ∀ k1 r1, k1 < T.K → r1 < bump p k k1 → ∀ k', k' < T.K → bump p k k' < T.N k' → T.Le k1 r1 k' (bump p k k') := by
  intro k1 r1 h1 h2 k' h3 h4
  have hle : T.Le k1 r1 k (p k) := by
    by_cases e : k1 = k
    · subst e
      rw [bump_same] at h2
      have := hs.mono (k := k1) (r := r1) (s := p k1) h1 (by omega) hp
      unfold Tab.Le; omega
    · rw [bump_ne p e] at h2
      exact h.ord k1 r1 h1 h2 k hk hp
  by_cases e : k' = k
  · subst e
    rw [bump_same] at h4 ⊢
    have := hs.mono (k := k') (r := p k') (s := p k' + 1) h3 (by omega) h4
    unfold Tab.Le at *; omega
  · rw [bump_ne p e] at h4 ⊢
    have := hmin k' h3 h4
    unfold Tab.Le at *; omega
theorem bump_le {T : Tab} {p : Nat → Nat} {k : Nat} (h : ∀ k, k < T.K → p k ≤ T.N k) (hk : k < T.K) (hp : p k < T.N k) : ∀ x, x < T.K → bump p k x ≤ T.N x := fun x hx => by
  by_cases e : x = k
  · subst e; rw [bump_same]; omega
  · rw [bump_ne p e]; exact h x hx
theorem bump_mono (p : Nat → Nat) (k x : Nat) : p x ≤ bump p k x := by
  by_cases e : x = k
  · subst e; rw [bump_same]; omega
  · rw [bump_ne p e]; exact Nat.le_refl _
/-- A step that appends. -/
theorem Tab.Inv.step_new {T : Tab} {p : Nat → Nat} {n : Nat} {O : Nat → Nat × Nat} (hs : T.Sorted) (h : T.Inv p n O) {k : Nat} (hk : k < T.K) (hp : p k < T.N k)
    (hmin : ∀ k', k' < T.K → p k' < T.N k' → T.Le k (p k) k' (p k')) (hn : n = 0 ∨ T.A k (p k) ≠ T.A (O (n - 1)).1 (O (n - 1)).2) : T.Inv (bump p k) (n + 1) (put O n (k, p k)) := by
  have hf := (h.new_iff hs hk hp hmin).1 hn
  have hbig : ∀ k' r', k' < T.K → r' < p k' → T.A k' r' ≤ T.A k (p k) := fun k' r' h1 h2 => by
    rcases h.ord k' r' h1 h2 k hk hp with g | g <;> omega
  refine ⟨bump_le h.le hk hp, h.ord_step hs hk hp hmin, fun t ht => ?_, fun t ht => ?_, fun t ht => ?_, fun k1 r1 h1 h2 => ?_, fun k1 r1 h1 h2 hfi => ?_⟩
  · by_cases e : t = n
    · subst e; rw [put_same]; exact ⟨hk, by simp only [bump_same]; omega⟩
    · rw [put_ne O _ e]
      have := h.bnd t (by omega)
      have := bump_mono p k (O t).1
      exact ⟨by omega, by omega⟩
  · by_cases e : t = n
    · subst e; rw [put_same]; exact hf
    · rw [put_ne O _ e]; exact h.fst t (by omega)
  · by_cases e : t + 1 = n
    · subst e
      rw [put_same, put_ne O _ (by omega)]
      have hb := h.bnd t (by omega)
      have := hbig _ _ hb.1 hb.2
      rcases hn with g | g
      · omega
      · rw [Nat.add_sub_cancel] at g
        simp only; omega
    · rw [put_ne O _ e, put_ne O _ (by omega)]; exact h.asc t (by omega)
  · refine ⟨by omega, ?_⟩
    rw [Nat.add_sub_cancel, put_same]
    by_cases e : k1 = k
    · subst e
      rw [bump_same] at h2
      exact hs.mono h1 (by omega) hp
    · rw [bump_ne p e] at h2
      exact hbig k1 r1 h1 h2
  · by_cases e : k1 = k ∧ r1 = p k
    · obtain ⟨rfl, rfl⟩ := e
      exact ⟨n, by omega, put_same _ _ _⟩
    · have h3 : r1 < p k1 := by
        by_cases e2 : k1 = k
        · subst e2; rw [bump_same] at h2; omega
        · rw [bump_ne p e2] at h2; exact h2
      obtain ⟨t, ht, e3⟩ := h.all k1 r1 h1 h3 hfi
      exact ⟨t, by omega, by rw [put_ne O _ (by omega)]; exact e3⟩
/-- A step that skips. -/
theorem Tab.Inv.step_old {T : Tab} {p : Nat → Nat} {n : Nat} {O : Nat → Nat × Nat} (hs : T.Sorted) (h : T.Inv p n O) {k : Nat} (hk : k < T.K) (hp : p k < T.N k)
    (hmin : ∀ k', k' < T.K → p k' < T.N k' → T.Le k (p k) k' (p k')) (hn : n ≠ 0) (heq : T.A k (p k) = T.A (O (n - 1)).1 (O (n - 1)).2) : T.Inv (bump p k) n O := by
  have hnf : ¬ T.First k (p k) := fun hf => by
    rcases (h.new_iff hs hk hp hmin).2 hf with g | g
    · exact hn g
    · exact g heq
  refine ⟨bump_le h.le hk hp, h.ord_step hs hk hp hmin, fun t ht => ?_, h.fst, h.asc, fun k1 r1 h1 h2 => ?_, fun k1 r1 h1 h2 hfi => ?_⟩
  · have := h.bnd t ht
    have := bump_mono p k (O t).1
    exact ⟨by omega, by omega⟩
  · by_cases e : k1 = k
    · subst e
      rw [bump_same] at h2
      have := hs.mono h1 (show r1 ≤ p k1 by omega) hp
      exact ⟨by omega, by omega⟩
    · rw [bump_ne p e] at h2
      exact h.last k1 r1 h1 h2
  · have h3 : r1 < p k1 := by
      by_cases e2 : k1 = k
      · subst e2; rw [bump_same] at h2
        by_cases e3 : r1 = p k1
        · subst e3; exact absurd hfi hnf
        · omega
      · rw [bump_ne p e2] at h2; exact h2
    exact h.all k1 r1 h1 h3 hfi
end Go.Proofs.Qxb6618949a
