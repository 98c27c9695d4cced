import Derived.Test.Qxb6618949aMs
import Derived.WalkKit
import Derived.WalkSpells
import Derived.WalkLawsBesides
import Derived.Deep.QuietTactic
import Derived.BigQuiet
import Derived.RegionTactic
import Derived.Deep.RegionHeld3
import Derived.BigRegion
import Derived.Deep.DeepCutAuto
namespace Go.Proofs.Qxb6618949a
open Go.RowKit
set_option linter.unusedVariables false
theorem size47 (W : World) : (sizeOf (Try.prog.elem 47)).run Try.prog W = .ok 2 W := by kernel_rfl
theorem run_cut47 (b n c h : Nat) (x : Int) (hx : x = h) (h2 : h ≤ c) (W : World) :
    (Instr.slice 47 (.slice (some ⟨b, 0, none⟩) n c) none (some (.int .i64 x)) none).run Try.prog W = .ok (.slice (some ⟨b, 0, none⟩) h c) W := by
  subst hx
  rw [run_slice_h W 47 (some ⟨b, 0, none⟩) n c Try.underlying47 .i64 h (by omega) (by omega), size47]
  simp [Result.andThen, sliced, add_none]
def RetAny (e : Ending) : Prop := ∃ v, e = .returned v
theorem Kp.alloc {B R : Nat} {w w' : World} (h : Kp B R w w') (O : Obj) : Kp B R w (w'.alloc O) :=
  h.trans (.of_below ((Below.refl _ _).alloc (Nat.le_refl _) _))
theorem Ent.less {w : World} {R n m : Nat} {E : Nat → Nat × Nat} (h : Ent w R n E) (hm : m ≤ n) : Ent w R m E := by
  obtain ⟨cur, ty, h1, h2, h3⟩ := h
  exact ⟨cur, ty, h1, by omega, fun t ht => h3 t (by omega)⟩
theorem Ent.of_block {w w' : World} {R n : Nat} {E : Nat → Nat × Nat} (h : Ent w R n E) (e : w'.heap[R]? = w.heap[R]?) : Ent w' R n E := by
  obtain ⟨cur, ty, h1, h2⟩ := h
  exact ⟨cur, ty, e.trans h1, h2⟩
theorem hpop_post {w : World} {Bh : Nat} {ax : Option Addr} {K cK R n c : Nat} {E : Nat → Nat × Nat} (h : HpR w Bh ax K cK R (n + 1) c E) (O : Obj) :
    HpR ((w.setCell ⟨Bh, 1, none⟩ (.slice (some ⟨R, 0, none⟩) n c)).alloc O).drew.drew Bh ax K cK R n c E ∧ Kp Bh R w ((w.setCell ⟨Bh, 1, none⟩ (.slice (some ⟨R, 0, none⟩) n c)).alloc O).drew.drew := by
  have e1 : (w.setCell ⟨Bh, 1, none⟩ (.slice (some ⟨R, 0, none⟩) n c)).heap[Bh]? = some (.cells (#[.slice ax K cK, .slice (some ⟨R, 0, none⟩) (n + 1) c].setIfInBounds 1 (.slice (some ⟨R, 0, none⟩) n c)) 70) := heap_setCell_same _ _ _ _ _ _ h.1
  have hz : (w.setCell ⟨Bh, 1, none⟩ (.slice (some ⟨R, 0, none⟩) n c)).heap.size = w.heap.size := by simp [World.setCell]
  have hb : Below w.heap.size (w.setCell ⟨Bh, 1, none⟩ (.slice (some ⟨R, 0, none⟩) n c)) ((w.setCell ⟨Bh, 1, none⟩ (.slice (some ⟨R, 0, none⟩) n c)).alloc O) := by
    rw [← hz]; exact (Below.refl _ _).alloc (Nat.le_refl _) _
  refine ⟨⟨?_, h.2.1, ?_⟩, ((((Kp.refl Bh R w).setB _).alloc O).drew).drew⟩
  · exact (hb.block Bh h.hp.lt).trans e1
  · refine (h.2.2.less (by omega)).of_block ?_
    exact (hb.block R h.2.2.lt).trans (heap_setCell_other _ _ _ _ h.2.1)
set_option maxHeartbeats 1600000 in
theorem hpop_any (Bh : Nat) (ax : Option Addr) (K cK R n c : Nat) (E : Nat → Nat × Nat) (w : World) (hn : n + 1 ≤ 8192) (hc : n + 1 ≤ c) (h : HpR w Bh ax K cK R (n + 1) c E) :
    Calls Try.prog 62 #[.pointer (some ⟨Bh, 0, none⟩)] w fun e w' => RetAny e ∧ HpR w' Bh ax K cK R n c E ∧ Kp Bh R w w' := by
  obtain ⟨h0, h1, hf⟩ := h.hp.cells
  obtain ⟨a0, a1⟩ := h.2.2.cell (t := n) (by omega)
  have hne : ¬ R = Bh := h.2.1
  have hne2 : ¬ Bh = R := fun e => hne e.symm
  have i1 : (n : Int) < ((n + 1 : Nat) : Int) := by omega
  have i2 : ((n + 1 : Nat) : Int) - 1 = (n : Int) := by omega
  have i3 : ((n : Int) + 1) - 1 = (n : Int) := by omega
  have hl := h.hp.lt
  have hR := h.2.2.lt
  have hcut := run_cut47 R (n + 1) c n (n : Int) rfl (by omega)
  have HE := hide h
  clear h
  go_enter Try.func62, Try.ntmps62
  go_wp2_with fail
  go_region
  go_wp2_with fail
  go_region
  go_wp2_with fail
  go_ret
  exact ⟨⟨_, rfl⟩, hpop_post HE.out _⟩
end Go.Proofs.Qxb6618949a
