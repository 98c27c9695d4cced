/-
  DERIVED. FROM THE ROW's READING OF A SLICE OF SPANS TO WHAT THE WALKS ARE TOLD.
-/
import Derived.Test.Qxb6617005aReads
import Derived.ProofKit
import Derived.OpenShut
import Derived.ShutString
import Derived.ChangeOld
import Derived.Below
import Derived.Deep.SlicePairs
namespace Go.Proofs.Qxb6617005a
open Go.ChangeShapes Go.WideShapes Go.ChangeAt Go.RowKit
set_option linter.unusedVariables false
theorem own : ownKnob Try.prog.godebug = none := by kernel_rfl
theorem laidOut : laidOutB Try.prog = true := by kernel_rfl
theorem cells38 : Try.prog.cellsOf 38 = 2 := by kernel_rfl
theorem cells23 : Try.prog.cellsOf 23 = 1 := by kernel_rfl

theorem open_spans {H : Type} {enc : TypeId × Value → H} {W : World} {ad : Option Addr} {n c : Nat} {fuel : Nat} {x : DataW H × List MemPlace}
    (h : DataW.trod enc Try.prog W 0 (fun _ => true) true fuel 22 [.slice ad n c] = some x) : n ≤ maxLen ∧ ∃ A R : Nat → Int, SP W ad n A R := by
  rcases Deep.open_slice_pairs (f0 := _) (f1 := _) Try.underlying22 Try.underlying38 cells38 rfl rfl cells23 cells23 h with ⟨hcs, _⟩ | ⟨a, len, cap, m, f, V0, V1, D0, D1, P0, P1, hcs, _, hl, hm, hmm, _, hc⟩
  · simp at hcs
    obtain ⟨rfl, rfl, rfl⟩ := hcs
    exact ⟨by unfold maxLen; omega, fun _ => 0, fun _ => 0, fun k hk => by omega⟩
  · simp at hcs
    obtain ⟨rfl, rfl, rfl⟩ := hcs
    simp at hmm
    subst hmm
    refine ⟨Nat.le_trans hl hm, fun k => (match V0 k with | .int _ q => q | _ => 0), fun k => (match V1 k with | .int _ q => q | _ => 0), fun k hk => ?_⟩
    obtain ⟨h0, h1, t0, t1⟩ := hc k (by omega)
    obtain ⟨q0, e0, _, _⟩ := DataW.trod_int Try.underlying23 t0
    obtain ⟨q1, e1, _, _⟩ := DataW.trod_int Try.underlying23 t1
    simp at e0 e1
    have hz := (hc 0 (by omega)).1
    obtain ⟨b, off, q⟩ := a
    cases q with
    | some q =>
      simp only [Nat.zero_mul, Addr.add, if_pos, World.cell?] at hz
      split at hz <;> simp at hz
    | none =>
      have ea : ∀ j, (Addr.mk b off none).add j = ⟨b, off + j, none⟩ := fun j => by unfold Addr.add; split <;> simp_all
      rw [ea] at h0 h1
      rw [e0] at h0
      rw [e1] at h1
      refine ⟨b, off, rfl, ?_, ?_⟩
      · simp only [e0]; exact h0
      · simp only [e1, Nat.add_assoc]; exact h1
end Go.Proofs.Qxb6617005a
