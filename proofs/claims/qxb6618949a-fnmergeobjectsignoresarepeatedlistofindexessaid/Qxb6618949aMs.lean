import Derived.Test.Qxb6618949aMl
import Derived.WalkKit
import Derived.WalkSpells
import Derived.WalkLawsBesides
import Derived.Deep.QuietTactic
import Derived.BigQuiet
import Derived.RegionTactic
import Derived.Deep.RegionHeld3
import Derived.BigRegion
import Derived.Deep.DeepCutAuto
namespace Go.Proofs.Qxb6618949a
open Go.RowKit
set_option linter.unusedVariables false
/-- All blocks but two are as they were. -/
def Kp (B R : Nat) (w w' : World) : Prop := Below 0 w w' ∧ ∀ b, b < w.heap.size → b ≠ B → b ≠ R → w'.heap[b]? = w.heap[b]?
theorem Kp.refl (B R : Nat) (w : World) : Kp B R w w := ⟨Below.refl _ _, fun _ _ _ _ => rfl⟩
theorem Kp.trans {B R : Nat} {a b c : World} (h : Kp B R a b) (k : Kp B R b c) : Kp B R a c :=
  ⟨h.1.trans k.1, fun x hx h1 h2 => (k.2 x (by have := h.1.size; omega) h1 h2).trans (h.2 x hx h1 h2)⟩
theorem Kp.of_below {B R : Nat} {a b : World} (h : Below a.heap.size a b) : Kp B R a b := ⟨h.mono (Nat.zero_le _), fun x hx _ _ => h.block x hx⟩
theorem Kp.below {B R S : Nat} {a b : World} (h : Kp B R a b) (hS : S ≤ a.heap.size) (hB : S ≤ B) (hR : S ≤ R) : Below S a b := ⟨h.1.os, h.1.tape, h.1.output, h.1.size, fun x hx => h.2 x (by omega) (by omega) (by omega)⟩
theorem Kp.setR {B R i : Nat} {w w' : World} (h : Kp B R w w') (v : Value) : Kp B R w (w'.setCell ⟨R, i, none⟩ v) :=
  ⟨⟨h.1.os, h.1.tape, h.1.output, by simp [World.setCell]; exact h.1.size, fun k hk => by omega⟩, fun k hk h1 h2 => by rw [heap_setCell_other _ _ _ _ h2]; exact h.2 k hk h1 h2⟩
theorem Kp.setB {B R i : Nat} {w w' : World} (h : Kp B R w w') (v : Value) : Kp B R w (w'.setCell ⟨B, i, none⟩ v) :=
  ⟨⟨h.1.os, h.1.tape, h.1.output, by simp [World.setCell]; exact h.1.size, fun k hk => by omega⟩, fun k hk h1 h2 => by rw [heap_setCell_other _ _ _ _ h1]; exact h.2 k hk h1 h2⟩
theorem Kp.drew {B R : Nat} {w w' : World} (h : Kp B R w w') : Kp B R w w'.drew := ⟨⟨h.1.os, h.1.tape, h.1.output, h.1.size, h.1.block⟩, h.2⟩
/-- The heap with its row of entries in block R. -/
def HpR (w : World) (Bh : Nat) (ax : Option Addr) (K cK R n c : Nat) (E : Nat → Nat × Nat) : Prop :=
  w.heap[Bh]? = some (.cells #[.slice ax K cK, .slice (some ⟨R, 0, none⟩) n c] 70) ∧ R ≠ Bh ∧ Ent w R n E
theorem HpR.hp {w : World} {Bh : Nat} {ax : Option Addr} {K cK R n c : Nat} {E : Nat → Nat × Nat} (h : HpR w Bh ax K cK R n c E) : Hp w Bh ax K cK (some ⟨R, 0, none⟩) n c E := ⟨h.1, .inr ⟨R, rfl, h.2.1, h.2.2⟩⟩
theorem HpR.below {w w' : World} {Bh : Nat} {ax : Option Addr} {K cK R n c : Nat} {E : Nat → Nat × Nat} (h : HpR w Bh ax K cK R n c E) (hb : Below w.heap.size w w') : HpR w' Bh ax K cK R n c E :=
  ⟨(hb.block Bh h.hp.lt).trans h.1, h.2.1, h.2.2.below hb⟩
/-- Two cells of an entry are set. -/
theorem Ent.set {w : World} {R n : Nat} {E : Nat → Nat × Nat} (h : Ent w R n E) {i : Nat} (hi : i < n) (k r : Nat) :
    Ent ((w.setCell ⟨R, i * 2, none⟩ (.int .u32 k)).setCell ⟨R, i * 2 + 1, none⟩ (.int .u32 r)) R n (fun x => if x = i then (k, r) else E x) := by
  obtain ⟨cur, ty, h1, h2, h3⟩ := h
  have e1 : (w.setCell ⟨R, i * 2, none⟩ (.int .u32 k)).heap[R]? = some (.cells (cur.setIfInBounds (i * 2) (.int .u32 k)) ty) := heap_setCell_same _ _ _ _ _ _ h1
  have e2 : ((w.setCell ⟨R, i * 2, none⟩ (.int .u32 k)).setCell ⟨R, i * 2 + 1, none⟩ (.int .u32 r)).heap[R]? = some (.cells ((cur.setIfInBounds (i * 2) (.int .u32 k)).setIfInBounds (i * 2 + 1) (.int .u32 r)) ty) := heap_setCell_same _ _ _ _ _ _ e1
  refine ⟨_, ty, e2, by simp; exact h2, fun t ht => ?_⟩
  by_cases e : t = i
  · subst e
    simp only [if_true]
    constructor
    · rw [Array.getElem?_setIfInBounds_ne (by omega), Array.getElem?_setIfInBounds_self_of_lt (by omega)]
    · rw [Array.getElem?_setIfInBounds_self_of_lt (by simp; omega)]
  · simp only [if_neg e]
    constructor
    · rw [Array.getElem?_setIfInBounds_ne (by omega), Array.getElem?_setIfInBounds_ne (by omega)]; exact (h3 t ht).1
    · rw [Array.getElem?_setIfInBounds_ne (by omega), Array.getElem?_setIfInBounds_ne (by omega)]; exact (h3 t ht).2
theorem Ent.congr {w : World} {R n : Nat} {E F : Nat → Nat × Nat} (h : Ent w R n E) (e : ∀ t, t < n → E t = F t) : Ent w R n F := by
  obtain ⟨cur, ty, h1, h2, h3⟩ := h
  exact ⟨cur, ty, h1, h2, fun t ht => by rw [← e t ht]; exact h3 t ht⟩
set_option maxHeartbeats 1600000 in
theorem hswap_any (Bh : Nat) (ax : Option Addr) (K cK R n c i j : Nat) (E : Nat → Nat × Nat) (w : World) (hi : i < n) (hj : j < n) (hn : n ≤ 8192) (h : HpR w Bh ax K cK R n c E) :
    Calls Try.prog 63 #[.pointer (some ⟨Bh, 0, none⟩), .int .i64 i, .int .i64 j] w fun e w' => e = .returned (.tuple #[]) ∧ HpR w' Bh ax K cK R n c (swapE E i j) ∧ Kp Bh R w w' := by
  obtain ⟨h0, h1, hf⟩ := h.hp.cells
  obtain ⟨a0, a1⟩ := h.2.2.cell hi
  obtain ⟨b0, b1⟩ := h.2.2.cell hj
  have hfr := h.2.2.frozen
  have hne : ¬ R = Bh := h.2.1
  have hne2 : ¬ Bh = R := fun e => hne e.symm
  have i1 : (i : Int) < (n : Int) := by omega
  have j1 : (j : Int) < (n : Int) := by omega
  have s1 := h.2.2.set hi (E j).1 (E j).2
  obtain ⟨d0, d1⟩ := s1.cell hj
  have HE := hide h
  clear h s1
  go_enter Try.func63, Try.ntmps63
  go_wp2_with fail
  go_region
  go_end0
  refine ⟨rfl, ⟨?_, hne, ?_⟩, ((((Kp.refl Bh R w).setR _).setR _).setR _).setR _ |>.drew⟩
  · show ((((w.setCell ⟨R, i * 2, none⟩ (.int .u32 (E j).1)).setCell ⟨R, i * 2 + 1, none⟩ (.int .u32 (E j).2)).setCell ⟨R, j * 2, none⟩ (.int .u32 (E i).1)).setCell ⟨R, j * 2 + 1, none⟩ (.int .u32 (E i).2)).heap[Bh]? = _
    rw [heap_setCell_other _ _ _ _ hne2, heap_setCell_other _ _ _ _ hne2, heap_setCell_other _ _ _ _ hne2, heap_setCell_other _ _ _ _ hne2]; exact HE.out.1
  · refine ((HE.out.2.2.set hi (E j).1 (E j).2).set hj (E i).1 (E i).2).congr fun t ht => ?_
    unfold swapE
    by_cases e1 : t = j
    · simp only [if_pos e1]
      by_cases e2 : t = i
      · simp only [if_pos e2]; rw [show i = j by omega]
      · simp only [if_neg e2]
    · simp only [if_neg e1]
end Go.Proofs.Qxb6618949a
