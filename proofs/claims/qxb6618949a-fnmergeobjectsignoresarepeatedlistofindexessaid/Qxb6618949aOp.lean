/-
  DERIVED. FROM THE ROW's READING OF A SLICE OF SLICES OF NUMBERS TO WHAT THE WALKS ARE TOLD.
-/
import Derived.Test.Qxb6618949aMr
import Derived.Deep.Matrix
import Derived.ProofKit
import Derived.OpenShut
import Derived.ShutString
import Derived.ChangeOld
import Derived.Below
namespace Go.Proofs.Qxb6618949a
open Go.ChangeShapes Go.WideShapes Go.ChangeAt Go.RowKit
set_option linter.unusedVariables false
/-- An address from which a cell further on is read is a plain one. -/
theorem plain_add {W : World} {a : Addr} {i : Nat} {v : Value} (h : W.cell? (a.add i) = some v) (h0 : ∃ u, W.cell? (a.add 0) = some u) : ∃ b o, a = ⟨b, o, none⟩ ∧ W.cell? ⟨b, o + i, none⟩ = some v := by
  obtain ⟨b, off, q⟩ := a
  cases q with
  | none =>
    have e : (Addr.mk b off none).add i = ⟨b, off + i, none⟩ := by unfold Addr.add; split <;> simp_all
    rw [e] at h
    exact ⟨b, off, rfl, h⟩
  | some q =>
    obtain ⟨u, h0⟩ := h0
    simp only [Addr.add, if_pos, World.cell?] at h0
    split at h0 <;> simp at h0
theorem open_lst {H : Type} {enc : TypeId × Value → H} {W : World} {ad : Option Addr} {n c fuel : Nat} {x : DataW H × List MemPlace} {t e q : TypeId} {ik : IntKind} (ht : Try.prog.underlying t = some (.slice e)) (he : Try.prog.underlying e = some (.slice q)) (hq : Try.prog.underlying q = some (.int ik))
    (ce : Try.prog.cellsOf e = 1) (cq : Try.prog.cellsOf q = 1) (h : DataW.trod enc Try.prog W 0 (fun _ => true) true fuel t [.slice ad n c] = some x) :
    ∃ (L : Nat → Nat) (X : Nat → Nat → Int), Lst ik W ad n L X ∧ ∀ k i, X k i = 0 ∨ (Lit.int ik (X k i)).wf = true := by
  rcases Deep.open_int_rows ht he hq ce cq h with ⟨hcs, _⟩ | ⟨a, len, cap, A, L, C, Z, hcs, _, hl, hm, _, hr⟩
  · simp at hcs
    obtain ⟨rfl, rfl, rfl⟩ := hcs
    exact ⟨fun _ => 0, fun _ _ => 0, fun k hk => by omega, fun _ _ => .inl rfl⟩
  · simp at hcs
    obtain ⟨rfl, rfl, rfl⟩ := hcs
    refine ⟨L, fun k i => if k < n then (Z k).getD i 0 else 0, fun k hk => ?_, fun k i => ?_⟩
    · obtain ⟨h1, h2, h3, h4, h5, h6, h7⟩ := hr k (by omega)
      obtain ⟨b, o, rfl, hc⟩ := plain_add h1 ⟨_, (hr 0 (by omega)).1⟩
      refine ⟨b, o, A k, C k, rfl, hc, h2, fun i hi => ?_, fun e => by have := h6 e; omega⟩
      cases hA : A k with
      | none => have := h6 hA; omega
      | some a' =>
        obtain ⟨_, h8⟩ := h7 a' hA
        obtain ⟨b', o', rfl, hc'⟩ := plain_add (h8 i (by omega)) ⟨_, h8 0 (by omega)⟩
        refine ⟨b', o', rfl, ?_⟩
        rw [hc']
        show _ = some (Value.int ik (if k < n then (Z k).getD i 0 else 0))
        rw [if_pos hk]
    · by_cases hk : k < n
      · show (if k < n then (Z k).getD i 0 else 0) = 0 ∨ (Lit.int ik (if k < n then (Z k).getD i 0 else 0)).wf = true
        rw [if_pos hk]
        obtain ⟨h1, h2, h3, h4, h5, h6, h7⟩ := hr k (by omega)
        by_cases hi : i < (Z k).length
        · have e : (Z k).getD i 0 = (Z k)[i] := by simp [List.getD, hi]
          rw [e]; exact .inr (h5 _ (List.getElem_mem _))
        · exact .inl (by simp [List.getD, hi])
      · show (if k < n then (Z k).getD i 0 else 0) = 0 ∨ (Lit.int ik (if k < n then (Z k).getD i 0 else 0)).wf = true
        rw [if_neg hk]; exact .inl rfl
theorem u8_in {n : Int} (h : n = 0 ∨ (Lit.int .u8 n).wf = true) : 0 ≤ n ∧ n ≤ 255 := by
  rcases h with rfl | h
  · omega
  · simp [Lit.wf, IntKind.min, IntKind.max, IntKind.signed, IntKind.bits] at h
    omega
end Go.Proofs.Qxb6618949a
