import Derived.Test.Qxb6618949aMi
import Derived.Deep.AppendLies
import Derived.WalkKit
import Derived.WalkSpells
import Derived.WalkLawsBesides
import Derived.Deep.QuietTactic
import Derived.BigQuiet
import Derived.Deep.DeepCutAuto
namespace Go.Proofs.Qxb6618949a
open Go.RowKit
set_option linter.unusedVariables false
/-- The cells of n entries. -/
def ecells (E : Nat → Nat × Nat) : Nat → List Value
  | 0 => []
  | n + 1 => ecells E n ++ [.int .u32 (E n).1, .int .u32 (E n).2]
theorem ecells_len (E : Nat → Nat × Nat) : ∀ n, (ecells E n).length = n * 2
  | 0 => rfl
  | n + 1 => by simp only [ecells, List.length_append, ecells_len E n, List.length_cons, List.length_nil]; omega
theorem ecells_get (E : Nat → Nat × Nat) : ∀ n t, t < n → (ecells E n)[t * 2]? = some (.int .u32 (E t).1) ∧ (ecells E n)[t * 2 + 1]? = some (.int .u32 (E t).2)
  | 0, t, h => by omega
  | n + 1, t, h => by
    simp only [ecells]
    by_cases e : t = n
    · subst e
      rw [List.getElem?_append_right (by rw [ecells_len]; omega), List.getElem?_append_right (by rw [ecells_len]; omega), ecells_len]
      rw [show t * 2 - t * 2 = 0 by omega, show t * 2 + 1 - t * 2 = 1 by omega]
      exact ⟨rfl, rfl⟩
    · rw [List.getElem?_append_left (by rw [ecells_len]; omega), List.getElem?_append_left (by rw [ecells_len]; omega)]
      exact ecells_get E n t (by omega)
theorem ecells_congr {E F : Nat → Nat × Nat} : ∀ n, (∀ t, t < n → E t = F t) → ecells E n = ecells F n
  | 0, _ => rfl
  | n + 1, h => by simp only [ecells]; rw [ecells_congr n (fun t ht => h t (by omega)), h n (by omega)]
theorem ecells_put (E : Nat → Nat × Nat) (n k r : Nat) : ecells E n ++ [.int .u32 (k : Nat), .int .u32 (r : Nat)] = ecells (put E n (k, r)) (n + 1) := by
  simp only [ecells]
  rw [put_same, ecells_congr (E := put E n (k, r)) (F := E) n (fun t ht => put_ne E _ (by omega))]
/-- A row of entries that the call owns, as the heap's contracts see it. -/
theorem own_ent {w : World} {base n : Nat} {E : Nat → Nat × Nat} {g c : Nat} (h : w.ownsRow base 50 2 (.slice (some ⟨g, 0, none⟩) n c) n (ecells E n)) : Ent w g n E ∧ base ≤ g ∧ n ≤ c := by
  rcases h.2 with ⟨e, _⟩ | ⟨g', cap, cur, e, hb, hg, h1, h2, h3, h4⟩
  · cases e
  · simp only [Value.slice.injEq, Option.some.injEq, Addr.mk.injEq, and_true, true_and] at e
    obtain ⟨rfl, rfl⟩ := e
    refine ⟨⟨cur, 50, hg, by rw [h3]; exact Nat.mul_le_mul_right _ h1, fun t ht => ?_⟩, hb, h1⟩
    have hget : ∀ x, x < n * 2 → cur[x]? = (ecells E n)[x]? := fun x hx => by
      rw [← h4, List.getElem?_take, if_pos hx]; simp
    rw [hget _ (by omega), hget _ (by omega)]
    exact ecells_get E n t ht
/-- One Index more. -/
theorem cont_more {wd i : Nat} {N : Nat → Nat} {X : Nat → Nat → Int} {n : Nat} {E : Nat → Nat × Nat} (h : (tab wd i N X).Cont (fun _ => 0) n E) (hN : 0 < N i) : (tab wd (i + 1) N X).Cont (fun _ => 0) (n + 1) (put E n (i, 0)) := by
  refine ⟨fun t ht => ?_, fun k hk hp => ?_, fun s t hs ht e => ?_⟩
  · by_cases e : t = n
    · subst e; rw [put_same]; exact ⟨by show i < i + 1; omega, rfl, hN⟩
    · rw [put_ne E _ e]
      have := h.ok t (by omega)
      exact ⟨Nat.lt_succ_of_lt this.1, this.2⟩
  · by_cases e : k = i
    · exact ⟨n, by omega, by rw [put_same, e]⟩
    · have hk' : k < i + 1 := hk
      obtain ⟨t, ht, et⟩ := h.all k (show k < i by omega) hp
      exact ⟨t, by omega, by rw [put_ne E _ (by omega)]; exact et⟩
  · by_cases e1 : s = n
    · by_cases e2 : t = n
      · omega
      · subst e1
        rw [put_same, put_ne E _ e2] at e
        have := (h.ok t (by omega)).1
        have h3 : (E t).1 < i := this
        simp only at e; omega
    · by_cases e2 : t = n
      · subst e2
        rw [put_same, put_ne E _ e1] at e
        have h3 : (E s).1 < i := (h.ok s (by omega)).1
        simp only at e; omega
      · rw [put_ne E _ e1, put_ne E _ e2] at e
        exact h.inj s t (by omega) (by omega) e
theorem cont_skip {wd i : Nat} {N : Nat → Nat} {X : Nat → Nat → Int} {n : Nat} {E : Nat → Nat × Nat} (h : (tab wd i N X).Cont (fun _ => 0) n E) (hN : ¬ 0 < N i) : (tab wd (i + 1) N X).Cont (fun _ => 0) n E := by
  refine ⟨fun t ht => ?_, fun k hk hp => ?_, h.inj⟩
  · have := h.ok t ht
    exact ⟨Nat.lt_succ_of_lt this.1, this.2⟩
  · have hk' : k < i + 1 := hk
    by_cases e : k = i
    · subst e; exact absurd hp hN
    · exact h.all k (show k < i by omega) hp
theorem cont_zero {wd : Nat} {N : Nat → Nat} {X : Nat → Nat → Int} (E : Nat → Nat × Nat) : (tab wd 0 N X).Cont (fun _ => 0) 0 E :=
  ⟨fun t ht => by omega, fun k hk => absurd hk (Nat.not_lt_zero _), fun s t hs => by omega⟩
theorem cont_num {T : Tab} {p : Nat → Nat} {n : Nat} {E : Nat → Nat × Nat} (h : T.Cont p n E) : n = 0 ∨ 0 < T.K := by
  by_cases e : n = 0
  · exact .inl e
  · have := (h.ok 0 (by omega)).1; exact .inr (by omega)
end Go.Proofs.Qxb6618949a
