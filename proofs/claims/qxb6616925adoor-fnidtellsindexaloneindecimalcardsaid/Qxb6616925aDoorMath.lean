/-
  DERIVED. THE PLAIN MATHEMATICS of decimal numerals: no Go in it.
-/
import Derived.Lib.ItoaMem
namespace Go.Proofs.Qxb6616925aDoor.Dec
open Go.Lib

/-- The value of a list of digits. -/
def num (l : List UInt8) : Nat := l.foldl (fun a c => a * 10 + (c.toNat - 48)) 0
theorem num_snoc (l : List UInt8) (c : UInt8) : num (l ++ [c]) = num l * 10 + (c.toNat - 48) := by simp [num]

def dig (c : UInt8) : Prop := 48 ≤ c.toNat ∧ c.toNat ≤ 57
theorem toNat_dg (d : Nat) (h : d < 10) : (UInt8.ofNat (48 + d)).toNat = 48 + d := by
  rw [UInt8.toNat_ofNat']; omega

theorem num_dec (u : Nat) : num (decDigits u) = u := by
  induction u using Nat.strongRecOn with
  | _ u ih =>
    by_cases h : u < 10
    · rw [decDigits, dif_pos h]; simp only [num, List.foldl_cons, List.foldl_nil]; rw [toNat_dg u h]; omega
    · rw [decDigits, dif_neg h, num_snoc, ih (u / 10) (by omega), toNat_dg (u % 10) (by omega)]; omega

theorem dig_dec (u : Nat) : ∀ c ∈ decDigits u, dig c := by
  induction u using Nat.strongRecOn with
  | _ u ih =>
    by_cases h : u < 10
    · rw [decDigits, dif_pos h]; intro c hc; simp only [List.mem_singleton] at hc; subst hc; unfold dig; rw [toNat_dg u h]; omega
    · rw [decDigits, dif_neg h]; intro c hc; rcases List.mem_append.1 hc with hc | hc
      · exact ih (u / 10) (by omega) c hc
      · simp only [List.mem_singleton] at hc; subst hc; unfold dig; rw [toNat_dg (u % 10) (by omega)]; omega

theorem dec_ne (u : Nat) : 1 ≤ (decDigits u).length := by rw [decDigits_length]; exact nDigits_pos u

/-- The first digit of a numeral of more than one is no zero. -/
theorem dec_head (u : Nat) (h : 10 ≤ u) : ∀ c, (decDigits u)[0]? = some c → 49 ≤ c.toNat := by
  induction u using Nat.strongRecOn with
  | _ u ih =>
    intro c hc
    rw [decDigits, dif_neg (by omega)] at hc
    have hl := dec_ne (u / 10)
    rw [List.getElem?_append_left (by omega)] at hc
    by_cases h2 : u / 10 < 10
    · rw [decDigits, dif_pos h2] at hc
      simp only [List.getElem?_cons_zero, Option.some.injEq] at hc
      subst hc; rw [toNat_dg _ h2]; omega
    · exact ih (u / 10) (by omega) (by omega) c hc

theorem dec_len1 (u : Nat) (h : 1 < (decDigits u).length) : 10 ≤ u := by
  by_cases h2 : u < 10
  · rw [decDigits, dif_pos h2] at h; simp at h
  · omega

theorem nDigits_le : ∀ (k u : Nat), u < 10 ^ (k + 1) → nDigits u ≤ k + 1
  | 0, u, h => by rw [nDigits_small (by simpa using h)]; exact Nat.le_refl _
  | k + 1, u, h => by
    by_cases h2 : u < 10
    · rw [nDigits_small h2]; omega
    · rw [nDigits_big h2]
      have := nDigits_le k (u / 10) (by rw [Nat.pow_succ] at h; omega)
      omega

theorem dec_len (u : Nat) (h : u ≤ 9223372036854775808) : (decDigits u).length ≤ 19 := by
  rw [decDigits_length]; exact nDigits_le 18 u (by omega)

theorem num_lt : ∀ (k : Nat) (l : List UInt8), l.length = k → (∀ c ∈ l, dig c) → num l < 10 ^ k
  | 0, l, hl, _ => by obtain rfl := List.length_eq_zero_iff.1 hl; simp [num]
  | k + 1, l, hl, h => by
    obtain ⟨l', c, rfl⟩ : ∃ l' c, l = l' ++ [c] := ⟨l.dropLast, l.getLast (by intro e; simp [e] at hl), (List.dropLast_concat_getLast _).symm⟩
    have h1 := num_lt k l' (by simpa using hl) (fun d hd => h d (List.mem_append_left _ hd))
    have h2 := h c (List.mem_append_right _ (List.mem_singleton.2 rfl))
    rw [num_snoc, Nat.pow_succ]
    unfold dig at h2
    omega

theorem dec_inj (u v : Nat) (h : decDigits u = decDigits v) : u = v := by rw [← num_dec u, h, num_dec]

theorem itoa_inj (a b : Int) (h : itoa a = itoa b) : a = b := by
  have hd : ∀ u : Nat, ∀ l, decDigits u ≠ 45 :: l := fun u l e => by
    have := dig_dec u 45 (by rw [e]; exact List.mem_cons_self)
    unfold dig at this; simp at this
  by_cases ha : a < 0 <;> by_cases hb : b < 0
  · simp only [itoa, if_pos ha, if_pos hb, List.cons.injEq, true_and] at h
    have := dec_inj _ _ h; omega
  · simp only [itoa, if_pos ha, if_neg hb] at h; exact absurd h.symm (hd _ _)
  · simp only [itoa, if_neg ha, if_pos hb] at h; exact absurd h (hd _ _)
  · simp only [itoa, if_neg ha, if_neg hb] at h
    have := dec_inj _ _ h; omega
end Go.Proofs.Qxb6616925aDoor.Dec
