import Derived.Test.Qxb6617005aAt
import Derived.WalkKit
import Derived.WalkSpells
import Derived.WalkLawsBesides
import Derived.Deep.QuietTactic
import Derived.BigQuiet
import Derived.Deep.RegionHeld3
namespace Go.Proofs.Qxb6617005a
open Go.RowKit
set_option linter.unusedVariables false
/-- Block P aside, what was there is as it was. -/
def Keeps (P : Nat) (w w' : World) : Prop := Below 0 w w' ∧ ∀ k, k < w.heap.size → k ≠ P → w'.heap[k]? = w.heap[k]?
/-- How many values Forget lets go of. -/
def Gone (A R : Nat → Int) (n : Nat) (t : Int) (e0 : Nat) : Prop := ∃ i, Cut A n (t + 1) i ∧ ((i = 0 ∧ e0 = 0) ∨ (i ≠ 0 ∧ R (i - 1) ≠ 0 ∧ R (i - 1) ≤ t ∧ e0 = i) ∨ (i ≠ 0 ∧ (R (i - 1) = 0 ∨ t < R (i - 1)) ∧ e0 = i - 1))
def Forgot (A R : Nat → Int) (n : Nat) (t : Int) (P : Nat) (w : World) (e : Ending) (w' : World) : Prop :=
  ∃ (e0 : Nat) (ad' : Option Addr) (c' : Nat), e0 ≤ n ∧ Gone A R n t e0 ∧ e = .returned (.bool (decide (e0 < n))) ∧ w'.cell? ⟨P, 0, none⟩ = some (.slice ad' (n - e0) c') ∧ VS w' ad' (n - e0) (fun k => A (e0 + k)) (fun k => R (e0 + k)) ∧ Keeps P w w'
theorem forgot_mk {A R : Nat → Int} {B n P e0 c' : Nat} {t : Int} {w w1 : World} {ad' : Option Addr} {v : Bool} (X : Obj) (he : e0 ≤ n) (hg : Gone A R n t e0) (had : e0 < n → ad' = some ⟨B, e0 * 5, none⟩)
    (hb : Below w.heap.size w w1) (hv : VS w1 (some ⟨B, 0, none⟩) n A R) (hP : w1.cell? ⟨P, 0, none⟩ = some (.slice (some ⟨B, 0, none⟩) n n)) (hPB : P ≠ B) (hvv : v = decide (e0 < n)) :
    Forgot A R n t P w (.returned (.bool v)) ((w1.setCell ⟨P, 0, none⟩ (.slice ad' (n - e0) c')).alloc X) := by
  subst hvv
  have hlP : P < w1.heap.size := block_lt_of_cell hP
  have hz : (w1.setCell ⟨P, 0, none⟩ (.slice ad' (n - e0) c')).heap.size = w1.heap.size := by simp [World.setCell]
  have hbk : ∀ k, k < w1.heap.size → k ≠ P → ((w1.setCell ⟨P, 0, none⟩ (.slice ad' (n - e0) c')).alloc X).heap[k]? = w1.heap[k]? := fun k hk hne => by
    rw [heap_alloc_old (h := by rw [hz]; exact hk), heap_setCell_other _ _ _ _ hne]
  refine ⟨e0, ad', c', he, hg, rfl, ?_, ?_, ?_⟩
  · rw [World.cell?_alloc_past _ _ _ (by rw [hz]; exact hlP), World.cell?_setCell_same _ _ _ hP]
  · intro k hk
    obtain ⟨B', o', e', hs⟩ := hv (e0 + k) (by omega)
    simp only [Option.some.injEq, Addr.mk.injEq, and_true] at e'
    obtain ⟨rfl, rfl⟩ := e'
    refine ⟨B, e0 * 5, had (by omega), ?_⟩
    have e5 : e0 * 5 + k * 5 = 0 + (e0 + k) * 5 := by omega
    rw [e5]
    have hcell : ∀ o, ((w1.setCell ⟨P, 0, none⟩ (.slice ad' (n - e0) c')).alloc X).cell? ⟨B, o, none⟩ = w1.cell? ⟨B, o, none⟩ := fun o => World.cell?_of_block (hbk B hs.lt (Ne.symm hPB))
    unfold SpanAt at *
    rw [hcell, hcell, hcell, hcell, hcell]; exact hs
  · refine ⟨⟨hb.os, hb.tape, hb.output, ?_, fun k hk => by omega⟩, fun k hk hne => ?_⟩
    · have := hb.size; simp; omega
    · rw [hbk k (by have := hb.size; omega) hne]; exact hb.block k hk
theorem forgot_none {A R : Nat → Int} {B n P : Nat} {t : Int} {w w1 : World} {v : Bool} (hg : Gone A R n t 0)
    (hb : Below w.heap.size w w1) (hv : VS w1 (some ⟨B, 0, none⟩) n A R) (hP : w1.cell? ⟨P, 0, none⟩ = some (.slice (some ⟨B, 0, none⟩) n n)) (hvv : v = decide (0 < n)) :
    Forgot A R n t P w (.returned (.bool v)) w1 := by
  subst hvv
  refine ⟨0, _, _, by omega, hg, rfl, hP, ?_, ⟨⟨hb.os, hb.tape, hb.output, hb.size, fun k hk => by omega⟩, fun k hk _ => hb.block k hk⟩⟩
  intro k hk
  simpa using hv k (by omega)

set_option maxHeartbeats 800000 in
theorem forget_any (A R : Nat → Int) (B n P : Nat) (t : Int) (w : World) (hn : n ≤ 65536) (h : VS w (some ⟨B, 0, none⟩) n A R) (hm : Mono A n) (hr0 : 0 ≤ t) (hr : t < 18446744073709551615)
    (hP : w.cell? ⟨P, 0, none⟩ = some (.slice (some ⟨B, 0, none⟩) n n)) (hF : w.frozen? ⟨P, 0, none⟩ = false) (hPB : P ≠ B) :
    Calls Try.prog 21 #[.pointer (some ⟨P, 0, none⟩), .int .u64 t] w fun e w' => Forgot A R n t P w e w' := by
  have HW := hide (written_any A R (some ⟨B, 0, none⟩) n n t w hn h hm hr0 hr)
  have hlP : P < w.heap.size := block_lt_of_cell hP
  go_enter Try.func21, Try.ntmps21
  go_wp2_with fail
  refine HW.out.mono ?_
  rintro e w1 ⟨⟨i, rfl, hc⟩, hb⟩
  have hP1 : w1.cell? ⟨P, 0, none⟩ = some (.slice (some ⟨B, 0, none⟩) n n) := (hb.cell hlP).trans hP
  have hF1 : w1.frozen? ⟨P, 0, none⟩ = false := (hb.frozen hlP).trans hF
  have HV := hide (h.below hb)
  have HB := hide hb
  have hlP1 : P < w1.heap.size := by have := hb.size; omega
  clear h hb hm HW hP hF hlP
  have hin : i ≤ n := hc.1
  by_cases hi : i = 0
  · subst hi
    go_wp2_with fail
    go_ret
    exact forgot_none ⟨0, hc, .inl ⟨rfl, rfl⟩⟩ HB.out HV.out hP1 (by simp)
  · obtain ⟨m, rfl⟩ : ∃ m, i = m + 1 := ⟨i - 1, by omega⟩
    obtain ⟨B', o', e', hs⟩ := HV.out m (by omega)
    simp only [Option.some.injEq, Addr.mk.injEq, and_true] at e'
    obtain ⟨rfl, rfl⟩ := e'
    simp only [Nat.zero_add] at hs
    have hlB := hs.lt
    obtain ⟨c0, c1, c2, c3, c4⟩ := hs
    have hI : (m : Int) < n := by omega
    by_cases hR : R m ≠ 0 ∧ R m ≤ t
    · have hd : (R m != 0) = true := by simp [hR.1]
      have hd2 := hR.2
      have HG : Hid (Gone A R n t (m + 1)) := ⟨m + 1, hc, .inr (.inl ⟨by omega, hR.1, hR.2, rfl⟩)⟩
      clear hR
      go_wp2_with fail
      · have h : n = m + 1 := by assumption
        go_ret
        subst h
        have F := forgot_mk (e0 := m + 1) (c' := 0) (ad' := some ⟨B, 0, none⟩) (v := false) (.cells #[.int .u8 0, .bool false, .nilIface, .int .u64 (A m), .int .u64 (R m)] 47) (Nat.le_refl _) HG.out (fun h => absurd h (Nat.lt_irrefl _)) HB.out HV.out hP1 hPB (by simp)
        rw [Nat.sub_self] at F
        exact F
      · go_ret
        exact forgot_mk (e0 := m + 1) (v := decide (0 < n - (m + 1))) _ hin HG.out (fun _ => rfl) HB.out HV.out hP1 hPB (by rw [decide_eq_decide]; omega)
    · have HG : Hid (Gone A R n t m) := ⟨m + 1, hc, .inr (.inr ⟨by omega, by simp only [Nat.add_sub_cancel]; omega, rfl⟩)⟩
      have hmn : (m : Int) ≤ n := by omega
      by_cases hz : R m = 0
      · have hd : (R m != 0) = false := by simp [hz]
        clear hR hz
        go_wp2_with fail
        go_ret
        exact forgot_mk (e0 := m) (v := decide (0 < n - m)) _ (by omega) HG.out (fun _ => rfl) HB.out HV.out hP1 hPB (by rw [decide_eq_decide]; omega)
      · have hd : (R m != 0) = true := by simp [hz]
        have hd2 : t < R m := by omega
        clear hR hz
        go_wp2_with fail
        go_ret
        exact forgot_mk (e0 := m) (v := decide (0 < n - m)) _ (by omega) HG.out (fun _ => rfl) HB.out HV.out hP1 hPB (by rw [decide_eq_decide]; omega)
end Go.Proofs.Qxb6617005a
