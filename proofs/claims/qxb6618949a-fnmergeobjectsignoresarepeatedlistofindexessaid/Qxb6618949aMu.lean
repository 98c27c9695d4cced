import Derived.Test.Qxb6618949aMb
import Derived.WalkKit
import Derived.WalkSpells
import Derived.WalkLawsBesides
import Derived.RegionTactic
import Derived.Deep.RegionHeld3
import Derived.BigRegion
import Derived.Deep.DeepCutAuto
namespace Go.Proofs.Qxb6618949a
open Go.RowKit
set_option linter.unusedVariables false
theorem info37 : (Try.prog.info? 37).map (fun i => (i.zero, i.size, i.bytes)) = some (some (.pointer none), 1, 8) := by kernel_rfl
theorem mk27 (c : Nat) (hc : c ≤ 1048576) : ∃ L : Array Value, L.size = c ∧ ∀ W : World, (Instr.makeSlice 27 (.int .i64 c) (.int .i64 c)).run Try.prog W = .ok (.slice (some ⟨W.heap.size, 0, none⟩) c c) (W.alloc (.cells L 37)) := by
  obtain ⟨i0, hi, hz0, hz1, hz2⟩ := info_parts info37
  refine ⟨madeCells (Value.pointer none).cells c, ?_, fun W => ?_⟩
  · rw [size_madeCells]
  · have h := run_make W 27 37 i0 _ Try.underlying27 hi hz0 .i64 .i64 c c (by omega) (by omega) (by rw [hz2]; omega) (by omega)
    rw [hz1, Int.toNat_natCast, Nat.mul_one] at h
    exact h
/-- An Index that lies in blocks from base on. -/
def IxA (base : Nat) (w : World) (q wd N : Nat) (X : Nat → Int) : Prop :=
  ∃ bb nm, base ≤ q ∧ base ≤ bb ∧ (∀ b o f, nm = some (Addr.mk b o f) → base ≤ b) ∧ w.cell? ⟨q, 2, none⟩ = some (.int .i64 wd) ∧ w.cell? ⟨q, 7, none⟩ = some (.int .i64 N) ∧ w.cell? ⟨q, 5, none⟩ = some (.slice (some ⟨bb, 0, none⟩) 1 1) ∧ w.cell? ⟨bb, 0, none⟩ = some (.slice nm (N * wd) (N * wd)) ∧ Row .u8 w nm (N * wd) X
theorem IxA.ix {base : Nat} {w : World} {q wd N : Nat} {X : Nat → Int} (h : IxA base w q wd N X) : Ix w q wd N X := by
  obtain ⟨bb, nm, _, _, _, h1, h2, h3, h4, h5⟩ := h
  exact ⟨h1, h2, bb, nm, h3, h4, h5⟩
theorem IxA.keep {base : Nat} {w w' : World} {q wd N : Nat} {X : Nat → Int} (h : IxA base w q wd N X) (e : ∀ b, base ≤ b → b < w.heap.size → w'.heap[b]? = w.heap[b]?) : IxA base w' q wd N X := by
  obtain ⟨bb, nm, b1, b2, b3, h1, h2, h3, h4, h5⟩ := h
  have hc : ∀ b o v, base ≤ b → w.cell? ⟨b, o, none⟩ = some v → w'.cell? ⟨b, o, none⟩ = some v := fun b o v hb hv => (World.cell?_of_block (e b hb (block_lt_of_cell hv))).trans hv
  refine ⟨bb, nm, b1, b2, b3, hc _ _ _ b1 h1, hc _ _ _ b1 h2, hc _ _ _ b1 h3, hc _ _ _ b2 h4, fun i hi => ?_⟩
  obtain ⟨b, o, e1, e2⟩ := h5 i hi
  exact ⟨b, o, e1, hc _ _ _ (b3 b o none e1) e2⟩
/-- The list of Indexes, the first k of them built. -/
def Bld (w wr : World) (wd K k : Nat) (N : Nat → Nat) (X : Nat → Nat → Int) : Prop :=
  ∃ cu, wr.heap[w.heap.size]? = some (.cells cu 37) ∧ cu.size = K ∧ (∀ i, i < k → ∃ q, cu[i]? = some (.pointer (some ⟨q, 0, none⟩)) ∧ IxA (w.heap.size + 1) wr q wd (N i) (X i)) ∧ Below w.heap.size w wr
/-- What BuildIndexes gives. -/
def BPost (w : World) (wd K : Nat) (N : Nat → Nat) (X : Nat → Nat → Int) (e : Ending) (w' : World) : Prop :=
  ∃ bx, e = .returned (.slice (some ⟨bx, 0, none⟩) K K) ∧ Ixs w' (some ⟨bx, 0, none⟩) wd K N X ∧ Below w.heap.size w w'
theorem Ext.al {a b : World} (h : Ext a b) {O : Obj} : Ext a (b.alloc O) := h.trans (Ext.alloc b O)
/-- A copy of the names. -/
def Cl8 (B : Nat) (W : World) (L : Nat) (Z : Nat → Int) (nm : Option Addr) (W' : World) : Prop := Row .u8 W' nm L Z ∧ (∀ b o f, nm = some (Addr.mk b o f) → B ≤ b) ∧ Ext W W'
theorem cl8 {B : Nat} {W W' : World} {L : Nat} {Z : Nat → Int} {e : Ending} (h : Cloned 5 .u8 W L Z e W') (hB : B ≤ W.heap.size) : ∃ nm, e = .returned (.slice nm L L) ∧ Hid (Cl8 B W L Z nm W') := by
  obtain ⟨ad, rfl, h1, h2⟩ := h
  refine ⟨ad, rfl, ?_, ?_, h2⟩
  · rcases h1 with ⟨rfl, rfl, _⟩ | ⟨rfl, cur, g1, g2, g3⟩
    · exact fun i hi => by omega
    · exact fun i hi => ⟨_, _, rfl, by rw [cell_of_row _ _ _ _ _ _ g1, Nat.zero_add]; exact g3 i hi⟩
  · rcases h1 with ⟨rfl, rfl, _⟩ | ⟨rfl, cur, g1, g2, g3⟩
    · exact fun b o f e => by cases e
    · exact fun b o f e => by cases e; exact hB
theorem cl64 {W W' : World} {L : Nat} {Z : Nat → Int} {e : Ending} (h : Cloned 2 .i64 W L Z e W') : ∃ nm, e = .returned (.slice nm L L) ∧ Hid (Ext W W') := by
  obtain ⟨ad, rfl, h1, h2⟩ := h
  exact ⟨ad, rfl, h2⟩
/-- A new Index, its value apart. -/
def NewI (B : Nat) (W : World) (nm : Option Addr) (L wd n q : Nat) (W' : World) : Prop :=
  ∃ bb, B ≤ q ∧ B ≤ bb ∧ W'.cell? ⟨q, 2, none⟩ = some (.int .i64 wd) ∧ W'.cell? ⟨q, 7, none⟩ = some (.int .i64 n) ∧ W'.cell? ⟨q, 5, none⟩ = some (.slice (some ⟨bb, 0, none⟩) 1 1) ∧ W'.cell? ⟨bb, 0, none⟩ = some (.slice nm L L) ∧ Ext W W'
theorem NewI.ext {B : Nat} {W W' : World} {nm : Option Addr} {L wd n q : Nat} (h : NewI B W nm L wd n q W') : Ext W W' := by
  obtain ⟨bb, _, _, _, _, _, _, h⟩ := h
  exact h
theorem newI {B : Nat} {W W' : World} {nm : Option Addr} {L wd n : Nat} {e : Ending} (h : NewIx W nm L wd n e W') (hB : B ≤ W.heap.size) : ∃ q, e = .returned (.pointer (some ⟨q, 0, none⟩)) ∧ Hid (NewI B W nm L wd n q W') := by
  obtain ⟨q, bb, rfl, h1, h2, h3⟩ := h
  exact ⟨q, rfl, bb, Nat.le_trans hB h1, Nat.le_trans hB h2, h3⟩
theorem bld_step {w wr w1 w3 W1 W3 : World} {wd K k L q : Nat} {N : Nat → Nat} {X : Nat → Nat → Int} {nm : Option Addr} (h : Bld w wr wd K k N X) (hlt : k < K) (e3 : Ext wr w3) (h1 : Cl8 wr.heap.size W1 L (X k) nm w1) (f : Ext w1 w3) (h3 : NewI wr.heap.size W3 nm L wd (N k) q w3) (hL : L = N k * wd) :
    Bld w (w3.setCell ⟨w.heap.size, k, none⟩ (.pointer (some ⟨q, 0, none⟩))) wd K (k + 1) N X := by
  subst hL
  obtain ⟨cu, b1, b2, b3, b4⟩ := h
  have hl : w.heap.size < wr.heap.size := by
    by_cases g : w.heap.size < wr.heap.size
    · exact g
    · rw [Array.getElem?_eq_none (by omega)] at b1; cases b1
  have g1 := (Below.block e3 _ hl).trans b1
  have g2 : (w3.setCell ⟨w.heap.size, k, none⟩ (.pointer (some ⟨q, 0, none⟩))).heap[w.heap.size]? = some (.cells (cu.setIfInBounds k (.pointer (some ⟨q, 0, none⟩))) 37) := heap_setCell_same _ _ _ _ _ _ g1
  have hk : ∀ b, w.heap.size + 1 ≤ b → b < w3.heap.size → (w3.setCell ⟨w.heap.size, k, none⟩ (.pointer (some ⟨q, 0, none⟩))).heap[b]? = w3.heap[b]? := fun b hb _ => heap_setCell_other _ _ _ _ (show b ≠ w.heap.size by omega)
  refine ⟨_, g2, by simp; exact b2, fun i hi => ?_, (b4.trans (Below.mono e3 b4.size)).setCell (Nat.le_refl _) _⟩
  by_cases e : i = k
  · subst e
    obtain ⟨bb, q1, q2, q3, q4, q5, q6, _⟩ := h3
    refine ⟨q, by rw [Array.getElem?_setIfInBounds]; simp; omega, IxA.keep (w := w3) ⟨bb, nm, by omega, by omega, fun b o ff e => by have := h1.2.1 b o ff e; omega, q3, q4, q5, q6, h1.1.below f⟩ hk⟩
  · obtain ⟨q', g3, g4⟩ := b3 i (by omega)
    refine ⟨q', by rw [Array.getElem?_setIfInBounds_ne (by omega)]; exact g3, (g4.keep fun b _ hb2 => Below.block e3 b hb2).keep hk⟩
set_option maxRecDepth 20000 in
set_option maxHeartbeats 3200000 in
theorem build_any (an ao : Option Addr) (K cN cO wd : Nat) (N : Nat → Nat) (X Y : Nat → Nat → Int) (w : World) (hw0 : 0 < wd) (hw : wd ≤ 32) (hK : K ≤ 8192) (hN : ∀ k, k < K → N k ≤ 4096)
    (h : Lst .u8 w an K (fun k => N k * wd) X) (ho : Lst .i64 w ao K N Y) :
    Calls Try.prog 8 #[.slice an K cN, .slice ao K cO, .int .i64 wd] w fun e w' => BPost w wd K N X e w' := by
  obtain ⟨Lz, hLz, hmk⟩ := mk27 K (by omega)
  have HL := hide hLz
  have HX := hide (And.intro h (And.intro ho hN))
  clear h ho hN hLz
  go_enter Try.func8, Try.ntmps8
  go_wp2_with fail
  go_loopw [8] (fun x wr => ∃ k : Nat, k ≤ K ∧ x = .int .i64 k ∧ Hid (Bld w wr wd K k N X)) (fun x _ => K - (intOf x).toNat)
  case atStart => exact ⟨0, by omega, rfl, Lz, heap_alloc_new _ _, HL.out, fun i hi => by omega, (Below.refl _ _).alloc (Nat.le_refl _) _⟩
  case round =>
    obtain ⟨k, hk, rfl, hb⟩ := hrel
    by_cases hlt : k < K
    · have j1 : (k : Int) < (K : Int) := by omega
      obtain ⟨cu, b1, b2, b3, b4⟩ := hb.out
      obtain ⟨bn, on, nm, cn, rfl, e0, e1, e2, e3⟩ := HX.out.1 k hlt
      obtain ⟨bo, oo, om, co, rfl, d0, d1, d2, d3⟩ := HX.out.2.1 k hlt
      have hNk := HX.out.2.2 k hlt
      obtain ⟨L, hL⟩ : ∃ L, L = N k * wd := ⟨_, rfl⟩
      have hLk : L ≤ 1048576 := by have := Nat.mul_le_mul hNk hw; omega
      have i1 : (N k : Int) ≤ 4096 := by omega
      simp only [← hL] at e0 e1 e2 e3
      have HLe := hide hL
      clear hL
      have c0 : wr.cell? ⟨bn, on + k, none⟩ = some (.slice nm L cn) := (b4.cell (block_lt_of_cell e0)).trans e0
      have c1 : wr.cell? ⟨bo, oo + k, none⟩ = some (.slice om (N k) co) := (b4.cell (block_lt_of_cell d0)).trans d0
      have hl1 : bn < wr.heap.size := block_lt_of_cell c0
      have hl2 : bo < wr.heap.size := block_lt_of_cell c1
      have c2 : wr.frozen? ⟨w.heap.size, k, none⟩ = false := frozen_of_row wr _ _ _ 37 b1
      have hlt0 : w.heap.size < wr.heap.size := by
        by_cases g : w.heap.size < wr.heap.size
        · exact g
        · rw [Array.getElem?_eq_none (by omega)] at b1; cases b1
      obtain ⟨u0, hu0⟩ : ∃ u0, wr.cell? ⟨w.heap.size, k, none⟩ = some u0 := by
        rw [cell_of_row _ _ _ _ _ _ b1]; exact ⟨cu[k], Array.getElem?_eq_getElem (by omega)⟩
      have hne1 : ¬ bn = w.heap.size := by have := block_lt_of_cell e0; simp only at this; omega
      have hne2 : ¬ bo = w.heap.size := by have := block_lt_of_cell d0; simp only at this; omega
      have hne3 : ¬ w.heap.size = bn := fun e => hne1 e.symm
      have hne4 : ¬ w.heap.size = bo := fun e => hne2 e.symm
      have C16 : Hid (∀ W, Ext wr W → Calls Try.prog 16 #[.slice nm L cn] W fun e W' => ∃ nm', e = .returned (.slice nm' L L) ∧ Hid (Cl8 wr.heap.size W L (X k) nm' W')) := fun W hW => by
        have hr : Row .u8 wr nm L (X k) := fun i hi => by
          obtain ⟨b, o, q1, q2⟩ := e2 i hi
          exact ⟨b, o, q1, (b4.cell (block_lt_of_cell q2)).trans q2⟩
        exact (clone8_any nm L cn (X k) W hLk (hr.below hW) e3).mono fun e W' h => cl8 h (Below.size hW)
      have C22 : Hid (∀ W, Ext wr W → Calls Try.prog 22 #[.slice om (N k) co] W fun e W' => ∃ nm', e = .returned (.slice nm' (N k) (N k)) ∧ Hid (Ext W W')) := fun W hW => by
        have hr : Row .i64 wr om (N k) (Y k) := fun i hi => by
          obtain ⟨b, o, q1, q2⟩ := d2 i hi
          exact ⟨b, o, q1, (b4.cell (block_lt_of_cell q2)).trans q2⟩
        exact (clone64_any om (N k) co (Y k) W (by omega) (hr.below hW) d3).mono fun e W' h => cl64 h
      have C21 : Hid (∀ W nm' ao' ac', Ext wr W → Calls Try.prog 21 #[.slice nm' L L, .int .i64 wd, .slice ao' (N k) (N k), .slice ac' (N k) (N k)] W fun e W' => ∃ q, e = .returned (.pointer (some ⟨q, 0, none⟩)) ∧ Hid (NewI wr.heap.size W nm' L wd (N k) q W')) := fun W nm' ao' ac' hW =>
        (newix_any nm' ao' ac' L wd (N k) (N k) (N k) (N k) W).mono fun e W' h => newI h (Below.size hW)
      obtain ⟨L2, hL2, hmk2⟩ := mk29 (N k) (by omega)
      have H0 : Hid (Ext wr wr.drew) := ⟨rfl, rfl, rfl, Nat.le_refl _, fun _ _ => rfl⟩
      have HB := hide (And.intro b1 (And.intro b2 (And.intro b3 b4)))
      clear b1 b2 b3 b4 e2 d2 e0 d0 hL2
      go_wp2_with fail
      go_region_held3 (fun W => W.cell? ⟨bn, on + k, none⟩ = some (.slice nm L cn) ∧ W.cell? ⟨bo, oo + k, none⟩ = some (.slice om (N k) co)) (go_keep)
        (first
          | (go_at_call 16; refine (C16.out _ (by first | exact H0.out | exact Ext.al H0.out)).mono ?_; intro e w1 he; obtain ⟨nm1, rfl, hw1⟩ := he; have E1 : Hid (Ext wr w1) := Ext.trans (by first | exact H0.out | exact Ext.al H0.out) hw1.out.2.2; have G1 := (Below.cell E1.out hl1).trans c0; have G2 := (Below.cell E1.out hl2).trans c1)
          | (go_at_call 22; refine (C22.out _ (by first | exact E1.out | exact Ext.al E1.out)).mono ?_; intro e w2 he; obtain ⟨ao1, rfl, hw2⟩ := he; have F2 : Hid (Ext w1 w2) := (by first | exact hw2.out | exact Ext.trans (Ext.alloc _ _) hw2.out); have E2 : Hid (Ext wr w2) := Ext.trans E1.out F2.out; have G4 := (Below.cell E2.out hl1).trans c0; have G5 := (Below.cell E2.out hl2).trans c1)
          | (go_at_call 21; refine (C21.out _ _ _ _ (by first | exact E2.out | exact Ext.al E2.out)).mono ?_; intro e w3 he; obtain ⟨q1, rfl, hw3⟩ := he; have F3 : Hid (Ext w2 w3) := (by first | exact hw3.out.ext | exact Ext.trans (Ext.alloc _ _) hw3.out.ext); have E3 : Hid (Ext wr w3) := Ext.trans E2.out F3.out; have G7 := (Below.cell E3.out hl1).trans c0; have G8 := (Below.cell E3.out hl2).trans c1; have G9 : w3.frozen? ⟨w.heap.size, k, none⟩ = false := frozen_of_row w3 _ _ _ 37 ((Below.block E3.out _ hlt0).trans HB.out.1); have G10 : w3.cell? ⟨w.heap.size, k, none⟩ = some u0 := (Below.cell E3.out (block_lt_of_cell hu0)).trans hu0; clear G1 G2 G4 G5))
      all_goals (go_wp2_with fail; go_roundw)
      all_goals first
        | exact ⟨k + 1, by omega, by go_num, bld_step hb.out hlt E3.out hw1.out (Ext.trans F2.out F3.out) hw3.out HLe.out⟩
        | (simp [intOf]; omega)
    · obtain rfl : K = k := by omega
      go_wp2_with fail
      go_ret
      obtain ⟨cu, b1, b2, b3, b4⟩ := hb.out
      refine ⟨_, rfl, fun i hi => ?_, b4⟩
      obtain ⟨q, h1, h2⟩ := b3 i hi
      exact ⟨_, _, q, rfl, by rw [cell_of_row _ _ _ _ _ _ b1, Nat.zero_add]; exact h1, h2.ix⟩
end Go.Proofs.Qxb6618949a
