import Derived.Test.Qxb6617005aSame
import Derived.Test.Qxb6617005aForget
import Derived.WalkKit
import Derived.WalkSpells
import Derived.WalkLawsBesides
import Derived.Deep.QuietTactic
import Derived.BigQuiet
import Derived.Deep.RegionHeld3
namespace Go.Proofs.Qxb6617005a
open Go.RowKit
set_option linter.unusedVariables false
theorem Keeps.cell {P : Nat} {w w' : World} (h : Keeps P w w') {p : Addr} (hp : p.block < w.heap.size) (hne : p.block ≠ P) : w'.cell? p = w.cell? p := World.cell?_of_block (w := w) (h.2 p.block hp hne)
theorem Keeps.frozen {P : Nat} {w w' : World} (h : Keeps P w w') {p : Addr} (hp : p.block < w.heap.size) (hne : p.block ≠ P) : w'.frozen? p = w.frozen? p := World.frozen?_of_block (w := w) (h.2 p.block hp hne)
theorem Keeps.below {P : Nat} {w w' : World} (h : Keeps P w w') {H : Nat} (hP : H ≤ P) (hH : H ≤ w.heap.size) : Below H w w' := ⟨h.1.os, h.1.tape, h.1.output, h.1.size, fun k hk => h.2 k (by omega) (by omega)⟩
theorem Keeps.of_below {P H : Nat} {w w' : World} (h : Below w.heap.size w w') : Keeps P w w' := ⟨h.mono (Nat.zero_le _), fun k hk _ => h.block k hk⟩
theorem VS.keeps {P : Nat} {w w' : World} {ad : Option Addr} {n : Nat} {A R : Nat → Int} (h : VS w ad n A R) (hk : Keeps P w w') (hne : ∀ B o, ad = some ⟨B, o, none⟩ → B ≠ P) : VS w' ad n A R := fun k hkn => by
  obtain ⟨B, o, e, hs⟩ := h k hkn
  refine ⟨B, o, e, ?_⟩
  have hlt := hs.lt
  have hB := hne B o e
  unfold SpanAt at *
  rw [hk.cell hlt hB, hk.cell hlt hB, hk.cell hlt hB, hk.cell hlt hB, hk.cell hlt hB]; exact hs
theorem SP.keeps {P : Nat} {w w' : World} {ad : Option Addr} {n : Nat} {A R : Nat → Int} (h : SP w ad n A R) {H : Nat} (hH : ∀ b o, ad = some ⟨b, o, none⟩ → b < H) (hb : Below H w w') : SP w' ad n A R := fun k hk => by
  obtain ⟨b, off, e, h1, h2⟩ := h k hk
  exact ⟨b, off, e, (hb.cell (hH b off e)).trans h1, (hb.cell (hH b off e)).trans h2⟩

/-- A current value stands. -/
def Cur (R : Nat → Int) (n : Nat) : Prop := n ≠ 0 ∧ R (n - 1) = 0
def upd (R : Nat → Int) (n : Nat) (v : Bool) (r : Int) (k : Nat) : Int := if v = true ∧ k + 1 = n then r else R k
/-- The block of a Values that the law has built. -/
def Own (w : World) (B n : Nat) : Prop := ∃ cur, w.heap[B]? = some (.cells cur 47) ∧ cur.size = n * 5
def Removed (A R : Nat → Int) (B n : Nat) (r : Int) (w : World) (e : Ending) (w' : World) : Prop :=
  ∃ v : Bool, e = .returned (.tuple #[.agg #[.int .u8 0, .bool false, .nilIface], .bool v]) ∧ (v = true ↔ Cur R n) ∧ VS w' (some ⟨B, 0, none⟩) n A (upd R n v r) ∧ Own w' B n ∧ Keeps B w w'
theorem upd_false (R : Nat → Int) (n : Nat) (r : Int) : upd R n false r = R := by funext k; simp [upd]
theorem Own.alloc {w : World} {B n : Nat} (h : Own w B n) (X : Obj) : Own (w.alloc X) B n := by
  obtain ⟨cur, h1, h2⟩ := h
  have hlt : B < w.heap.size := by
    apply Decidable.byContradiction; intro hh
    rw [Array.getElem?_eq_none (by omega)] at h1; cases h1
  exact ⟨cur, by rw [heap_alloc_old (h := hlt)]; exact h1, h2⟩
theorem remove_any (A R : Nat → Int) (B n c : Nat) (r : Int) (w : World) (hn : n ≤ 65536) (hv : VS w (some ⟨B, 0, none⟩) n A R) (ho : Own w B n) :
    Calls Try.prog 16 #[.slice (some ⟨B, 0, none⟩) n c, .int .u64 r] w fun e w' => Removed A R B n r w e w' := by
  obtain ⟨cur, hcur, hsz⟩ := ho
  have hlt : B < w.heap.size := by
    apply Decidable.byContradiction; intro hh
    rw [Array.getElem?_eq_none (by omega)] at hcur; cases hcur
  have hno : ∀ (e : Ending) w', ¬ Cur R n → e = .returned (.tuple #[.agg #[.int .u8 0, .bool false, .nilIface], .bool false]) ∧ w' = w.alloc (.cells #[.int .u8 0, .bool false, .nilIface] 31) → Removed A R B n r w e w' := fun e w' hnc he => by
    obtain ⟨rfl, rfl⟩ := he
    have hb : Below w.heap.size w (w.alloc (.cells #[.int .u8 0, .bool false, .nilIface] 31)) := (Below.refl _ _).alloc (Nat.le_refl _) _
    exact ⟨false, rfl, ⟨(fun h => by cases h), fun h => absurd h hnc⟩, by rw [upd_false]; exact hv.below hb, Own.alloc ⟨cur, hcur, hsz⟩ _, Keeps.of_below (H := 0) hb⟩
  by_cases h0 : n = 0
  · subst h0
    exact (remove_nil (some ⟨B, 0, none⟩) c r w).mono fun e w' he => hno e w' (fun h => h.1 rfl) he
  obtain ⟨m, rfl⟩ : ∃ m, n = m + 1 := ⟨n - 1, by omega⟩
  obtain ⟨B', o', e', hs⟩ := hv m (by omega)
  simp only [Option.some.injEq, Addr.mk.injEq, and_true] at e'
  obtain ⟨rfl, rfl⟩ := e'
  simp only [Nat.zero_add] at hs
  by_cases hR : R m = 0
  · rw [hR] at hs
    refine (remove_yes B m c (A m) r w (by omega) hs (fun i => frozen_of_row w B i cur 47 hcur)).mono ?_
    rintro e w' ⟨rfl, rfl⟩
    have hh := heap_setCell_same w B (m * 5 + 4) cur 47 (.int .u64 r) hcur
    refine ⟨true, rfl, ⟨fun _ => ⟨by omega, by simpa using hR⟩, fun _ => rfl⟩, ?_, Own.alloc ⟨_, hh, by simp [hsz]⟩ _, ⟨⟨rfl, rfl, rfl, by simp [World.setCell], fun k hk => by omega⟩, fun k hk hne => ?_⟩⟩
    · have hlt2 : B < (w.setCell ⟨B, m * 5 + 4, none⟩ (.int .u64 r)).heap.size := by simp [World.setCell]; exact hlt
      intro k hk
      refine ⟨B, 0, rfl, ?_⟩
      obtain ⟨B', o', e', hs'⟩ := hv k hk
      simp only [Option.some.injEq, Addr.mk.injEq, and_true] at e'
      obtain ⟨rfl, rfl⟩ := e'
      unfold SpanAt at *
      simp only [Nat.zero_add] at *
      rw [World.cell?_alloc_past _ _ _ hlt2, World.cell?_alloc_past _ _ _ hlt2, World.cell?_alloc_past _ _ _ hlt2, World.cell?_alloc_past _ _ _ hlt2, World.cell?_alloc_past _ _ _ hlt2]
      rw [cell_of_row _ _ _ _ _ _ hh, cell_of_row _ _ _ _ _ _ hh, cell_of_row _ _ _ _ _ _ hh, cell_of_row _ _ _ _ _ _ hh, cell_of_row _ _ _ _ _ _ hh]
      rw [cell_of_row _ _ _ _ _ _ hcur, cell_of_row _ _ _ _ _ _ hcur, cell_of_row _ _ _ _ _ _ hcur, cell_of_row _ _ _ _ _ _ hcur, cell_of_row _ _ _ _ _ _ hcur] at hs'
      refine ⟨?_, ?_, ?_, ?_, ?_⟩
      · rw [Array.getElem?_setIfInBounds_ne (by omega)]; exact hs'.1
      · rw [Array.getElem?_setIfInBounds_ne (by omega)]; exact hs'.2.1
      · rw [Array.getElem?_setIfInBounds_ne (by omega)]; exact hs'.2.2.1
      · rw [Array.getElem?_setIfInBounds_ne (by omega)]; exact hs'.2.2.2.1
      · by_cases e : k = m
        · subst e
          simp [upd, Array.getElem?_setIfInBounds, hsz]; omega
        · rw [Array.getElem?_setIfInBounds_ne (by omega)]
          rw [show upd R (m + 1) true r k = R k from if_neg (fun h => by have := h.2; omega)]
          exact hs'.2.2.2.2
    · rw [heap_alloc_old (h := by simp [World.setCell]; exact hk), heap_setCell_other _ _ _ _ hne]
  · exact (remove_no B m c (A m) (R m) r w (by omega) hs (by simpa using hR)).mono fun e w' he => hno e w' (fun h => hR (by simpa using h.2)) he
end Go.Proofs.Qxb6617005a
