import Derived.Test.Qxb6617005aKeeps
namespace Go.Proofs.Qxb6617005a
open Go.RowKit
set_option linter.unusedVariables false
theorem ended_gone {A R : Nat → Int} {n e0 : Nat} {t : Int} (hm : Mono A n) (he : Ends A R n) (hg : Gone A R n t e0) : ∀ i, i < n → (Ended A R n t i ↔ i < e0) := by
  obtain ⟨i0, ⟨c1, c2, c3⟩, hh⟩ := hg
  intro i hi
  have up : i0 ≤ i → ¬ Ended A R n t i := fun h1 h2 => by
    have a1 := c3 i h1 hi
    rcases h2 with ⟨h3, h4⟩ | ⟨h3, h4⟩
    · have := c3 (i + 1) (by omega) h3; omega
    · rcases he i hi with h5 | h5 <;> omega
  have dn : i + 1 < i0 → Ended A R n t i := fun h => .inl ⟨by omega, by have := c2 (i + 1) h; omega⟩
  have mid : i + 1 = i0 → (Ended A R n t i ↔ (R i ≠ 0 ∧ R i ≤ t)) := fun h => by
    constructor
    · rintro (⟨h3, h4⟩ | h3)
      · have := c3 (i + 1) (by omega) h3; omega
      · exact h3
    · exact .inr
  rcases hh with ⟨rfl, rfl⟩ | ⟨h1, h2, h3, rfl⟩ | ⟨h1, h2, rfl⟩
  · exact ⟨fun h => absurd h (up (by omega)), fun h => by omega⟩
  · by_cases a : e0 ≤ i
    · exact ⟨fun h => absurd h (up a), fun h => by omega⟩
    · refine ⟨fun _ => by omega, fun _ => ?_⟩
      by_cases b : i + 1 = e0
      · have e : e0 - 1 = i := by omega
        rw [e] at h2 h3
        exact (mid b).2 ⟨h2, h3⟩
      · exact dn (by omega)
  · by_cases a : i0 ≤ i
    · exact ⟨fun h => absurd h (up a), fun h => by omega⟩
    · by_cases b : i + 1 = i0
      · have e : i0 - 1 = i := by omega
        rw [e] at h2
        exact ⟨fun h => by have := (mid b).1 h; omega, fun h => by omega⟩
      · exact ⟨fun _ => by omega, fun _ => dn (by omega)⟩
theorem stands_cut {A R : Nat → Int} {n i : Nat} {r : Int} (hc : Cut A n (r + 1) i) : StandsAt A R n r ↔ Stood R r i := by
  obtain ⟨c1, c2, c3⟩ := hc
  constructor
  · rintro ⟨j, hj, h1, h2, h3⟩
    have hji : j < i := by
      apply Decidable.byContradiction; intro h
      have := c3 j (by omega) hj; omega
    have hj2 : j + 1 = i := by
      apply Decidable.byContradiction; intro h
      have := c2 (j + 1) (by omega); have := h2 (by omega); omega
    subst hj2
    exact ⟨by omega, by simpa using h3⟩
  · rintro ⟨h1, h2⟩
    exact ⟨i - 1, by omega, by have := c2 (i - 1) (by omega); omega, fun h => by have := c3 (i - 1 + 1) (by omega) h; omega, h2⟩
theorem stood_shift {A R : Nat → Int} {n e0 i i' : Nat} {t r : Int} (htr : t ≤ r) (hg : Gone A R n t e0) (hc : Cut A n (r + 1) i) (hc' : Cut (fun k => A (e0 + k)) (n - e0) (r + 1) i') : Stood (fun k => R (e0 + k)) r i' ↔ Stood R r i := by
  obtain ⟨i0, ⟨a1, a2, a3⟩, hh⟩ := hg
  obtain ⟨c1, c2, c3⟩ := hc
  obtain ⟨d1, d2, d3⟩ := hc'
  simp only at d2 d3
  have h1 : i0 ≤ i := by
    apply Decidable.byContradiction; intro h
    have := c3 i (Nat.le_refl _) (by omega); have := a2 i (by omega); omega
  have he : e0 ≤ i0 := by rcases hh with ⟨rfl, rfl⟩ | ⟨_, _, _, rfl⟩ | ⟨_, _, rfl⟩ <;> omega
  have hi' : e0 + i' = i := by
    apply Decidable.byContradiction; intro h
    by_cases hlt : e0 + i' < i
    · have := d3 i' (Nat.le_refl _) (by omega); have := c2 (e0 + i') hlt; omega
    · have := c3 i (Nat.le_refl _) (by omega)
      have e : e0 + (i - e0) = i := by omega
      have f := d2 (i - e0) (by omega)
      rw [e] at f; omega
  unfold Stood
  simp only
  by_cases hz : i' = 0
  · subst hz
    refine ⟨fun h => absurd rfl h.1, fun h => ?_⟩
    exfalso
    rcases hh with ⟨h2, h3⟩ | ⟨h2, h3, h4, h5⟩ | ⟨h2, h3, h4⟩
    · have := h.1; omega
    · have e : i0 - 1 = i - 1 := by omega
      rw [e] at h3 h4
      have := h.2; omega
    · omega
  · have e : e0 + (i' - 1) = i - 1 := by omega
    rw [e]
    exact ⟨fun h => ⟨by omega, h.2⟩, fun h => ⟨hz, h.2⟩⟩
theorem Mono.shift {A : Nat → Int} {n e0 : Nat} (h : Mono A n) : Mono (fun k => A (e0 + k)) (n - e0) := fun i j hij hj => h _ _ (by omega) (by omega)
end Go.Proofs.Qxb6617005a
