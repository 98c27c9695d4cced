/-
  DERIVED. THE ROW OF FnMergeObjectsIgnoresARepeatedListOfIndexes, PROVED.
-/
import Derived.Test.Qxb6618949aRows
import Derived.Test.Qxb6618949aOp
import Derived.Test.Qxb6618949aLb
import Derived.ProofKit
import Derived.OpenShut
import Derived.ShutString
import Derived.ChangeOld
import Derived.Below
namespace Go.Proofs.Qxb6618949a.fnMergeObjectsIgnoresARepeatedListOfIndexes
open Go.ChangeShapes Go.WideShapes Go.ChangeAt Go.RowKit
set_option linter.unusedVariables false
theorem own : ownKnob Try.prog.godebug = none := by kernel_rfl
theorem laidOut : laidOutB Try.prog = true := by kernel_rfl
set_option maxRecDepth 100000 in
theorem lifted (os : Os) (started : os.Started) (H : Type) (enc : TypeId × Value → H) :
    ReturnsInHanded {} Try.checked os 4 .any (Rows.fnMergeObjectsIgnoresARepeatedListOfIndexesSpec.pre6 enc Try.prog Try.f4 Rows.fnMergeObjectsIgnoresARepeatedListOfIndexesRow.domain false) (Rows.fnMergeObjectsIgnoresARepeatedListOfIndexesSpec.post enc Try.prog Try.f4 false true false false) := by
  refine returnsInHanded_of_change (C := Try.checked) own started (by kernel_rfl) Try.func4
    (ChangeSpec.witness6 (enc := enc) (C := Try.checked) false ⟨#[], #[.slice none 0 0, .slice none 0 0, .int .i64 0], []⟩ 8 (by kernel_rfl) (by kernel_rfl) (by kernel_rfl) (by kernel_rfl)) ?_
  intro W base args ds gs before hval0 hW hcnd _
  have hval : ∀ (j : Nat) t v, Try.f4.params[j]? = some t → args[j]? = some v → Value.okWide Try.prog W .any base t v := hval0
  have hW' := hW
  obtain ⟨p, q, hA0, hV, rfl, hfz, hnd⟩ := hW
  have hA : DataW.TrodAll enc Try.prog W 0 (fun _ => true) true Try.f4.params.toList args.toList ds p := hA0
  rw [Try.params4] at hA hval
  obtain ⟨v0, vs0, d0, ds0, p0, q0, hargs, rfl, rfl, h0, r0⟩ := trodAll_cons hA
  obtain ⟨v1, vs1, d1, ds1, p1, q1, rfl, rfl, rfl, h1, r1⟩ := trodAll_cons r0
  obtain ⟨v2, vs2, d2, ds2, p2, q2, rfl, rfl, rfl, h2, r2⟩ := trodAll_cons r1
  obtain ⟨rfl, rfl, rfl⟩ := trodAll_nil r2
  obtain rfl : args = #[v0, v1, v2] := by cases args; simp_all
  obtain ⟨rfl, rfl⟩ := trodVars_none hV
  obtain ⟨a0, len0, cap0, rfl⟩ := okWide_slice Try.underlying22 (hval 0 22 v0 rfl rfl)
  obtain ⟨a1, len1, cap1, rfl⟩ := okWide_slice Try.underlying23 (hval 1 23 v1 rfl rfl)
  have k0 := h0
  have k1 := h1
  have lt0 : ∀ x ∈ p0, x.block < W.heap.size := by obtain ⟨m, hm⟩ := k0; exact DataW.trod_lt m _ _ _ hm
  have lt1 : ∀ x ∈ p1, x.block < W.heap.size := by obtain ⟨m, hm⟩ := k1; exact DataW.trod_lt m _ _ _ hm
  obtain ⟨L, X, hL, hX⟩ : ∃ (L : Nat → Nat) (X : Nat → Nat → Int), Lst .u8 W a0 len0 L X ∧ ∀ k i, X k i = 0 ∨ (Lit.int .u8 (X k i)).wf = true := by
    obtain ⟨fuel, hf⟩ := h0
    exact open_lst Try.underlying22 Try.underlying25 Try.underlying5 (by kernel_rfl) (by kernel_rfl) (by simpa [Value.cells] using hf)
  obtain ⟨M, Y, hM, hY⟩ : ∃ (L : Nat → Nat) (X : Nat → Nat → Int), Lst .i64 W a1 len1 L X ∧ ∀ k i, X k i = 0 ∨ (Lit.int .i64 (X k i)).wf = true := by
    obtain ⟨fuel, hf⟩ := h1
    exact open_lst Try.underlying23 Try.underlying26 Try.underlying2 (by kernel_rfl) (by kernel_rfl) (by simpa [Value.cells] using hf)
  obtain ⟨a2, rfl, rfl, rfl, w2⟩ := open_int Try.underlying3 (hval 2 3 v2 rfl rfl) h2
  clear hA0 hval0
  refine (law4 a0 a1 len0 len1 cap0 cap1 a2 L M X Y W (fun k i => u8_in (hX k i)) hL hM).mono fun e W' ⟨he, bel⟩ => ?_
  subst he
  exact ⟨_, rfl, _, _, _, [], _, [], hW', trodAll_mk1 (shut_bool Try.underlying4 _), (trodAll_cons_mk (Below.trod laidOut (by kernel_rfl) (of_decide_eq_true (by kernel_rfl)) k0 bel lt0) (trodAll_cons_mk (Below.trod laidOut (by kernel_rfl) (of_decide_eq_true (by kernel_rfl)) k1 bel lt1) (trodAll_cons_mk (shut_int Try.underlying3 w2) trodAll_mk0))), rfl, bel.frame _, fun h => by cases h⟩

theorem over : Rows.FnMergeObjectsIgnoresARepeatedListOfIndexesSaid :=
  OpenClaim.holds_of_wide 4 Try.f4 rfl rfl rfl rfl rfl rfl rfl ⟨rfl, rfl, rfl, rfl, rfl⟩ rfl rfl rfl rfl rfl (by kernel_rfl) Try.func4 (by kernel_rfl)
    (of_decide_eq_true (by kernel_rfl)) (by unfold Func.isWrapper; first | (rw [if_pos (by decide +kernel)]; kernel_rfl) | (rw [if_neg (by decide +kernel)]; exact ⟨rfl, rfl⟩))
    (fun os started H enc _ => lifted os started H enc)
end Go.Proofs.Qxb6618949a.fnMergeObjectsIgnoresARepeatedListOfIndexes
namespace Go.Proofs.Qxb6618949a
/-- THE STATEMENT. -/
theorem fnMergeObjectsIgnoresARepeatedListOfIndexes_holds : Rows.FnMergeObjectsIgnoresARepeatedListOfIndexesSaid := fnMergeObjectsIgnoresARepeatedListOfIndexes.over
end Go.Proofs.Qxb6618949a
