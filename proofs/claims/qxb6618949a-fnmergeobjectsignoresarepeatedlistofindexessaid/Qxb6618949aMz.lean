import Derived.Test.Qxb6618949aMm
import Derived.OwnWalk
import Derived.WalkKit
import Derived.WalkSpells
import Derived.WalkLawsBesides
import Derived.Deep.DeepCutAuto
namespace Go.Proofs.Qxb6618949a
open Go.RowKit
set_option linter.unusedVariables false
theorem info33 : (Try.prog.info? 33).map (fun i => (i.zero, i.size, i.bytes)) = some (some (.int .u32 0), 1, 4) := by kernel_rfl
theorem mk29 (c : Nat) (hc : c ≤ 1048576) : ∃ L : Array Value, L.size = c ∧ ∀ W : World, (Instr.makeSlice 29 (.int .i64 c) (.int .i64 c)).run Try.prog W = .ok (.slice (some ⟨W.heap.size, 0, none⟩) c c) (W.alloc (.cells L 33)) := by
  obtain ⟨i0, hi, hz0, hz1, hz2⟩ := info_parts info33
  refine ⟨madeCells (Value.int .u32 0).cells c, ?_, fun W => ?_⟩
  · rw [size_madeCells]
  · have h := run_make W 29 33 i0 _ Try.underlying29 hi hz0 .i64 .i64 c c (by omega) (by omega) (by rw [hz2]; omega) (by omega)
    rw [hz1, Int.toNat_natCast, Nat.mul_one] at h
    exact h
/-- A block of m numbers, the first i of them known. -/
def Half (w : World) (b m i : Nat) (Z : Nat → Nat) : Prop := ∃ cu, w.heap[b]? = some (.cells cu 33) ∧ cu.size = m ∧ ∀ t, t < i → cu[t]? = some (.int .u32 (Z t))
theorem Half.set {w : World} {b m i : Nat} {Z : Nat → Nat} (h : Half w b m i Z) (hi : i < m) : Half (w.setCell ⟨b, i, none⟩ (.int .u32 (Z i))) b m (i + 1) Z := by
  obtain ⟨cu, h1, h2, h3⟩ := h
  refine ⟨_, heap_setCell_same _ _ _ _ _ _ h1, by simp; exact h2, fun t ht => ?_⟩
  by_cases e : t = i
  · subst e; rw [Array.getElem?_setIfInBounds]; simp; omega
  · rw [Array.getElem?_setIfInBounds_ne (by omega)]; exact h3 t (by omega)
theorem Half.block {w w' : World} {b m i : Nat} {Z : Nat → Nat} (h : Half w b m i Z) (e : w'.heap[b]? = w.heap[b]?) : Half w' b m i Z := by
  obtain ⟨cu, h1, h2⟩ := h
  exact ⟨cu, e.trans h1, h2⟩
theorem Half.frozen {w : World} {b m i : Nat} {Z : Nat → Nat} (h : Half w b m i Z) (x : Nat) : w.frozen? ⟨b, x, none⟩ = false := by
  obtain ⟨cu, h1, h2⟩ := h
  exact frozen_of_row w b x cu 33 h1
theorem Half.cell {w : World} {b m i : Nat} {Z : Nat → Nat} (h : Half w b m i Z) {t : Nat} (ht : t < i) : w.cell? ⟨b, t, none⟩ = some (.int .u32 (Z t)) := by
  obtain ⟨cu, h1, h2, h3⟩ := h
  rw [cell_of_row _ _ _ _ _ _ h1]; exact h3 t ht
theorem Half.some {w : World} {b m i : Nat} {Z : Nat → Nat} (h : Half w b m i Z) {t : Nat} (ht : t < m) : ∃ u, w.cell? ⟨b, t, none⟩ = some u := by
  obtain ⟨cu, h1, h2, h3⟩ := h
  rw [cell_of_row _ _ _ _ _ _ h1]; exact ⟨cu[t], Array.getElem?_eq_getElem (by omega)⟩
/-- The two lists in the making. -/
def Zs (w1 wr : World) (m i : Nat) (O : Nat → Nat × Nat) : Prop :=
  Half wr w1.heap.size m i (fun t => (O t).1) ∧ Half wr (w1.heap.size + 1) m i (fun t => (O t).2) ∧ Below w1.heap.size w1 wr
/-- What ZZmergeObjects gives. -/
def ZPost (w : World) (T : Tab) (e : Ending) (w' : World) : Prop :=
  ∃ m bi br O, e = .returned (.tuple #[.slice (some ⟨bi, 0, none⟩) m m, .slice (some ⟨br, 0, none⟩) m m]) ∧ Half w' bi m m (fun t => (O t).1) ∧ Half w' br m m (fun t => (O t).2) ∧ T.Merged m O ∧ m ≤ 8192 ∧ Below w.heap.size w w'
theorem zs_start (w1 : World) (m : Nat) (O : Nat → Nat × Nat) {L1 L2 : Array Value} (h1 : L1.size = m) (h2 : L2.size = m) : Zs w1 ((w1.alloc (.cells L1 33)).alloc (.cells L2 33)) m 0 O := by
  obtain ⟨_, hb, g1, g2⟩ := two_alloc w1 (.cells L1 33) (.cells L2 33)
  exact ⟨⟨L1, g1, h1, fun t ht => by omega⟩, ⟨L2, g2, h2, fun t ht => by omega⟩, hb⟩
theorem zs_step {w1 wr : World} {m i : Nat} {O : Nat → Nat × Nat} (h : Zs w1 wr m i O) (hi : i < m) :
    Zs w1 ((wr.setCell ⟨w1.heap.size, i, none⟩ (.int .u32 (O i).1)).setCell ⟨w1.heap.size + 1, i, none⟩ (.int .u32 (O i).2)) m (i + 1) O := by
  obtain ⟨h1, h2, h3⟩ := h
  refine ⟨(h1.set hi).block (heap_setCell_other _ _ _ _ (by simp)), Half.set (h2.block (heap_setCell_other _ _ _ _ (by simp))) hi, (h3.setCell (Nat.le_refl _) _).setCell (by simp) _⟩
set_option maxRecDepth 20000 in
set_option maxHeartbeats 1600000 in
theorem zm_any (w : World) (ax : Option Addr) (wd K cK : Nat) (N : Nat → Nat) (X : Nat → Nat → Int) (hx : Ixs w ax wd K N X) (hw0 : 0 < wd) (hw : wd ≤ 32) (hK : K ≤ 8192) (hX : ∀ k x, 0 ≤ X k x ∧ X k x ≤ 255) (hN : ∀ k, k < K → N k ≤ 4096) (hR : ∀ k, k ≤ K → rows N k ≤ 8192) (hS : (tab wd K N X).Sorted) :
    Calls Try.prog 9 #[.slice ax K cK] w fun e w' => ZPost w (tab wd K N X) e w' := by
  have HX := hide (And.intro hx (And.intro hX (And.intro hN (And.intro hR hS))))
  clear hx hX hN hR hS
  go_enter Try.func9, Try.ntmps9
  go_wp2_with fail
  refine (merge_any w ax wd K cK N X HX.out.1 hw0 hw hK HX.out.2.1 HX.out.2.2.1 HX.out.2.2.2.1 HX.out.2.2.2.2).mono ?_
  rintro e w1 ⟨m, go, co, O, rfl, h1, h2, h3, h4⟩
  obtain ⟨L1, hL1, hmk1⟩ := mk29 m (by omega)
  have HL := hide hL1
  have hgl : go < w1.heap.size := h1.lt
  have HM := hide (And.intro h1 (And.intro h2 h4))
  have i1 : (m : Int) ≤ 8192 := by omega
  clear h1 h2 h4 hL1
  go_wp2_with fail
  go_loopw [7, 18] (fun _ x wr => ∃ i : Nat, i ≤ m ∧ x = .int .i64 i ∧ Hid (Zs w1 wr m i O)) (fun _ x _ => m - (intOf x).toNat)
  case atStart => exact ⟨0, by omega, rfl, zs_start w1 m O HL.out HL.out⟩
  case round =>
    obtain ⟨i, hi, rfl, hz⟩ := hrel
    by_cases hlt : i < m
    · have j1 : (i : Int) < (m : Int) := by omega
      obtain ⟨z1, z2, z3⟩ := hz.out
      have he := HM.out.1.below z3
      obtain ⟨a0, a1⟩ := he.cell hlt
      obtain ⟨u1, hu1⟩ := z1.some hlt
      obtain ⟨u2, hu2⟩ := z2.some hlt
      have f1 := z1.frozen i
      have f2 := z2.frozen i
      have hgw : go < wr.heap.size := he.lt
      have n1 : ¬ go = w1.heap.size := by omega
      have n2 : ¬ go = w1.heap.size + 1 := by omega
      have n3 : ¬ w1.heap.size = go := by omega
      clear z1 z2 z3 he
      go_wp2_with fail
      exact ⟨⟨i + 1, by omega, by go_num, zs_step hz.out hlt⟩, by simp [intOf]; omega⟩
    · obtain rfl : m = i := by omega
      go_wp2_with fail
      go_ret2
      exact ⟨m, _, _, O, rfl, hz.out.1, hz.out.2.1, HM.out.2.1, h3, HM.out.2.2.trans (hz.out.2.2.mono HM.out.2.2.size)⟩
end Go.Proofs.Qxb6618949a
