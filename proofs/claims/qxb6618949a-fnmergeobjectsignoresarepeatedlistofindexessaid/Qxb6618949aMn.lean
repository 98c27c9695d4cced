import Derived.Test.Qxb6618949aMh
import Derived.WalkKit
import Derived.WalkSpells
import Derived.WalkLawsBesides
import Derived.Deep.QuietTactic
import Derived.BigQuiet
import Derived.RegionTactic
import Derived.Deep.RegionHeld3
import Derived.BigRegion
namespace Go.Proofs.Qxb6618949a
open Go.RowKit
set_option linter.unusedVariables false
theorem drewN_below {B : Nat} {a w : World} (h : Below B a w) (n : Nat) : Below B a (w.drewN n) := ⟨h.os, h.tape, h.output, h.size, h.block⟩
/-- One Index: its struct in block q, N rows of wd bytes, its bytes X. -/
def Ix (w : World) (q wd N : Nat) (X : Nat → Int) : Prop :=
  w.cell? ⟨q, 2, none⟩ = some (.int .i64 wd) ∧ w.cell? ⟨q, 7, none⟩ = some (.int .i64 N) ∧ ∃ bb nm, w.cell? ⟨q, 5, none⟩ = some (.slice (some ⟨bb, 0, none⟩) 1 1) ∧ w.cell? ⟨bb, 0, none⟩ = some (.slice nm (N * wd) (N * wd)) ∧ Row .u8 w nm (N * wd) X
theorem Ix.below {w w' : World} {q wd N : Nat} {X : Nat → Int} (h : Ix w q wd N X) (hb : Below w.heap.size w w') : Ix w' q wd N X := by
  obtain ⟨h1, h2, bb, nm, h3, h4, h5⟩ := h
  exact ⟨(hb.cell (block_lt_of_cell h1)).trans h1, (hb.cell (block_lt_of_cell h2)).trans h2, bb, nm, (hb.cell (block_lt_of_cell h3)).trans h3, (hb.cell (block_lt_of_cell h4)).trans h4, h5.below hb⟩
/-- The list of Indexes. -/
def Ixs (w : World) (ax : Option Addr) (wd K : Nat) (N : Nat → Nat) (X : Nat → Nat → Int) : Prop :=
  ∀ k, k < K → ∃ bx ox q, ax = some ⟨bx, ox, none⟩ ∧ w.cell? ⟨bx, ox + k, none⟩ = some (.pointer (some ⟨q, 0, none⟩)) ∧ Ix w q wd (N k) (X k)
theorem Ixs.below {w w' : World} {ax : Option Addr} {wd K : Nat} {N : Nat → Nat} {X : Nat → Nat → Int} (h : Ixs w ax wd K N X) (hb : Below w.heap.size w w') : Ixs w' ax wd K N X := fun k hk => by
  obtain ⟨bx, ox, q, e, h1, h2⟩ := h k hk
  exact ⟨bx, ox, q, e, (hb.cell (block_lt_of_cell h1)).trans h1, h2.below hb⟩
set_option maxHeartbeats 400000 in
theorem len40_any (q N : Nat) (w : World) (h : w.cell? ⟨q, 7, none⟩ = some (.int .i64 N)) : Calls Try.prog 40 #[.pointer (some ⟨q, 6, none⟩)] w fun e w' => e = .returned (.int .i64 N) ∧ w' = w := by
  go_enter Try.func40, Try.ntmps40
  go_wp2_with fail
  go_ret
  exact ⟨rfl, rfl⟩
set_option maxHeartbeats 400000 in
theorem len27_any (q N : Nat) (w : World) (h : w.cell? ⟨q, 7, none⟩ = some (.int .i64 N)) : Calls Try.prog 27 #[.pointer (some ⟨q, 0, none⟩)] w fun e w' => e = .returned (.int .i64 N) ∧ w' = w := by
  go_enter Try.func27, Try.ntmps27
  go_wp2_with (first | (go_at_call 35; go_in) | (go_at_call 40; go_in))
  go_ret
  exact ⟨rfl, rfl⟩
set_option maxHeartbeats 800000 in
theorem row2_any (q bb B o wd L i I : Nat) (w : World) (hw0 : 0 < wd) (hw : wd ≤ 32) (hi : i < 16384) (hI : I = i * wd) (hIL : I + wd ≤ L) (hL : L ≤ 1048576)
    (h0 : w.cell? ⟨q, 2, none⟩ = some (.int .i64 wd)) (h3 : w.cell? ⟨q, 5, none⟩ = some (.slice (some ⟨bb, 0, none⟩) 1 1)) (hb : w.cell? ⟨bb, 0, none⟩ = some (.slice (some ⟨B, o, none⟩) L L)) :
    Calls Try.prog 37 #[.pointer (some ⟨q, 2, none⟩), .int .i64 i] w fun e w' => e = .returned (.slice (some ⟨B, o + I, none⟩) wd wd) ∧ ∃ m, w' = w.drewN m := by
  have hm : bits .and .i64 (i : Int) 16383 = (i : Int) := mask_eq i hi
  have hsh : (i : Int) / 16384 = 0 := by omega
  have hmul : (i : Int) * (wd : Int) = (I : Int) := by rw [hI]; simp
  have hc := run_cut3 B o L L I (I + wd) (I : Int) ((I : Int) + (wd : Int)) ((I : Int) + (wd : Int)) rfl (by omega) (by omega) (by omega) hIL
  rw [Nat.add_sub_cancel_left] at hc
  clear hI
  go_enter Try.func37, Try.ntmps37
  go_wp2_with (first | (go_at_call 34; go_in))
  go_quiet (fail)
  go_wp2_with fail
  all_goals (go_ret; exact ⟨rfl, _, rfl⟩)
/-- A name: wd bytes Y in memory that was there in the world w0. -/
def NamePost (w0 w : World) (wd : Nat) (Y : Nat → Int) (e : Ending) (w' : World) : Prop :=
  ∃ B off, e = .returned (.slice (some ⟨B, off, none⟩) wd wd) ∧ (∀ t, t < wd → w0.cell? ⟨B, off + t, none⟩ = some (.int .u8 (Y t))) ∧ Below w.heap.size w w'
theorem row_in {wd N r t : Nat} (hr : r < N) (ht : t < wd) : r * wd + t < N * wd := by
  have h1 : (r + 1) * wd ≤ N * wd := Nat.mul_le_mul_right _ hr
  rw [Nat.succ_mul] at h1; omega
theorem row_end {wd N r : Nat} (hr : r < N) : r * wd + wd ≤ N * wd := by
  have h1 : (r + 1) * wd ≤ N * wd := Nat.mul_le_mul_right _ hr
  rw [Nat.succ_mul] at h1; omega
set_option maxHeartbeats 800000 in
theorem oname_any (ax : Option Addr) (wd K cK k r : Nat) (N : Nat → Nat) (X : Nat → Nat → Int) (w0 w : World) (hw0 : 0 < wd) (hw : wd ≤ 32) (hK : K ≤ 8192) (hk : k < K) (hr : r < N k) (hN : N k ≤ 4096) (h : Ixs w0 ax wd K N X) (hb : Below w0.heap.size w0 w) :
    Calls Try.prog 29 #[.agg #[.int .u32 k, .int .u32 r], .slice ax K cK] w fun e w' => NamePost w0 w wd (fun t => X k (r * wd + t)) e w' := by
  obtain ⟨bx, ox, q, rfl, c0', c1', c2', bb, nm, c3', c4', c5⟩ := h k hk
  have c0 := (hb.cell (block_lt_of_cell c0')).trans c0'
  have c1 := (hb.cell (block_lt_of_cell c1')).trans c1'
  have c2 := (hb.cell (block_lt_of_cell c2')).trans c2'
  have c3 := (hb.cell (block_lt_of_cell c3')).trans c3'
  have c4 := (hb.cell (block_lt_of_cell c4')).trans c4'
  obtain ⟨B, o, rfl, _⟩ := c5 0 (by have := row_in (wd := wd) (t := 0) hr hw0; omega)
  have hcell : Hid (∀ t, t < wd → w0.cell? ⟨B, o + r * wd + t, none⟩ = some (.int .u8 (X k (r * wd + t)))) := fun t ht => by
    obtain ⟨B', o', e, hc⟩ := c5 (r * wd + t) (row_in hr ht)
    simp only [Option.some.injEq, Addr.mk.injEq, and_true] at e
    obtain ⟨rfl, rfl⟩ := e
    rw [Nat.add_assoc]; exact hc
  have hL : N k * wd ≤ 1048576 := by
    have := Nat.mul_le_mul hN hw; omega
  have hx : bx < w.heap.size := block_lt_of_cell c0
  have hq : q < w.heap.size := block_lt_of_cell c1
  have hbb : bb < w.heap.size := block_lt_of_cell c4
  have C37 : Hid (∀ (O : Obj) (m : Nat), Calls Try.prog 37 #[.pointer (some ⟨q, 2, none⟩), .int .i64 r] ((w.alloc O).drewN m) fun e w' => e = .returned (.slice (some ⟨B, o + r * wd, none⟩) wd wd) ∧ ∃ m', w' = ((w.alloc O).drewN m).drewN m') := fun O m =>
    row2_any q bb B o wd (N k * wd) r (r * wd) _ hw0 hw (by omega) rfl (row_end hr) hL ((World.cell?_alloc_past _ _ _ hq).trans c1) ((World.cell?_alloc_past _ _ _ hq).trans c3) ((World.cell?_alloc_past _ _ _ hbb).trans c4)
  have k1 : (k : Int) < (K : Int) := by omega
  have r1 : (r : Int) ≤ 4096 := by omega
  have k2 : (k : Int) ≤ 8192 := by omega
  clear h c5 c1 c2 c3 c4 c0' c1' c2' c3' c4' hb
  go_enter Try.func29, Try.ntmps29
  go_wp2_with fail
  go_quiet ((go_at_call 37; exact Calls.quiet_of (C37.out _ _)))
  go_wp2_with fail
  go_ret
  exact ⟨B, o + r * wd, rfl, hcell.out, drewN_below ((Below.refl _ _).alloc (Nat.le_refl _) _) _⟩
end Go.Proofs.Qxb6618949a
