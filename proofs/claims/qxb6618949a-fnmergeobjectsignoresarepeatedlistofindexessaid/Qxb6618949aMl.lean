import Derived.Test.Qxb6618949aMe
import Derived.WalkKit
import Derived.WalkSpells
import Derived.WalkLawsBesides
import Derived.Deep.QuietTactic
import Derived.BigQuiet
import Derived.RegionTactic
import Derived.Deep.RegionHeld3
import Derived.BigRegion
import Derived.Deep.DeepCutAuto
import Derived.Test.Qxb6618949aNf
namespace Go.Proofs.Qxb6618949a
open Go.RowKit
set_option linter.unusedVariables false
/-- The tables that the Indexes spell. -/
def tab (wd K : Nat) (N : Nat → Nat) (X : Nat → Nat → Int) : Tab := ⟨K, N, fun k r => key (fun t => X k (r * wd + t)) wd⟩
def Tab.ltb (T : Tab) (a b : Nat × Nat) : Bool := decide (T.A a.1 a.2 < T.A b.1 b.2) || (decide (T.A a.1 a.2 = T.A b.1 b.2) && decide (a.1 < b.1))
theorem Tab.ltb_iff (T : Tab) (a b : Nat × Nat) : T.ltb a b = true ↔ T.Lt a b := by
  unfold Tab.ltb Tab.Lt; simp only [Bool.or_eq_true, Bool.and_eq_true, decide_eq_true_eq]
/-- The row of entries in block R. -/
def Ent (w : World) (R n : Nat) (E : Nat → Nat × Nat) : Prop :=
  ∃ cur ty, w.heap[R]? = some (.cells cur ty) ∧ n * 2 ≤ cur.size ∧ ∀ t, t < n → cur[t * 2]? = some (.int .u32 (E t).1) ∧ cur[t * 2 + 1]? = some (.int .u32 (E t).2)
/-- The heap: its struct in block Bh. -/
def Hp (w : World) (Bh : Nat) (ax : Option Addr) (K cK : Nat) (ar : Option Addr) (n c : Nat) (E : Nat → Nat × Nat) : Prop :=
  w.heap[Bh]? = some (.cells #[.slice ax K cK, .slice ar n c] 70) ∧ (n = 0 ∨ ∃ R, ar = some ⟨R, 0, none⟩ ∧ R ≠ Bh ∧ Ent w R n E)
theorem Ent.cell {w : World} {R n : Nat} {E : Nat → Nat × Nat} (h : Ent w R n E) {t : Nat} (ht : t < n) : w.cell? ⟨R, t * 2, none⟩ = some (.int .u32 (E t).1) ∧ w.cell? ⟨R, t * 2 + 1, none⟩ = some (.int .u32 (E t).2) := by
  obtain ⟨cur, ty, h1, h2, h3⟩ := h
  rw [cell_of_row _ _ _ _ _ _ h1, cell_of_row _ _ _ _ _ _ h1]; exact h3 t ht
theorem Ent.frozen {w : World} {R n : Nat} {E : Nat → Nat × Nat} (h : Ent w R n E) (x : Nat) : w.frozen? ⟨R, x, none⟩ = false := by
  obtain ⟨cur, ty, h1, h2, h3⟩ := h
  exact frozen_of_row w R x cur ty h1
theorem Ent.lt {w : World} {R n : Nat} {E : Nat → Nat × Nat} (h : Ent w R n E) : R < w.heap.size := by
  obtain ⟨cur, ty, h1, h2, h3⟩ := h
  by_cases g : R < w.heap.size
  · exact g
  · rw [Array.getElem?_eq_none (by omega)] at h1; cases h1
theorem Ent.below {w w' : World} {R n : Nat} {E : Nat → Nat × Nat} (h : Ent w R n E) (hb : Below w.heap.size w w') : Ent w' R n E := by
  have hl := h.lt
  obtain ⟨cur, ty, h1, h2⟩ := h
  exact ⟨cur, ty, (hb.block R hl).trans h1, h2⟩
theorem Hp.lt {w : World} {Bh : Nat} {ax : Option Addr} {K cK : Nat} {ar : Option Addr} {n c : Nat} {E : Nat → Nat × Nat} (h : Hp w Bh ax K cK ar n c E) : Bh < w.heap.size := by
  by_cases g : Bh < w.heap.size
  · exact g
  · have := h.1; rw [Array.getElem?_eq_none (by omega)] at this; cases this
theorem Hp.below {w w' : World} {Bh : Nat} {ax : Option Addr} {K cK : Nat} {ar : Option Addr} {n c : Nat} {E : Nat → Nat × Nat} (h : Hp w Bh ax K cK ar n c E) (hb : Below w.heap.size w w') : Hp w' Bh ax K cK ar n c E := by
  refine ⟨(hb.block Bh h.lt).trans h.1, h.2.imp id ?_⟩
  rintro ⟨R, e, hne, he⟩
  exact ⟨R, e, hne, he.below hb⟩
theorem Hp.cells {w : World} {Bh : Nat} {ax : Option Addr} {K cK : Nat} {ar : Option Addr} {n c : Nat} {E : Nat → Nat × Nat} (h : Hp w Bh ax K cK ar n c E) :
    w.cell? ⟨Bh, 0, none⟩ = some (.slice ax K cK) ∧ w.cell? ⟨Bh, 1, none⟩ = some (.slice ar n c) ∧ ∀ o, w.frozen? ⟨Bh, o, none⟩ = false :=
  ⟨cell_of_row _ _ 0 _ _ _ h.1, cell_of_row _ _ 1 _ _ _ h.1, fun o => frozen_of_row w Bh o _ 70 h.1⟩
set_option maxHeartbeats 400000 in
theorem hlen_any (Bh : Nat) (ax ar : Option Addr) (K cK n c : Nat) (E : Nat → Nat × Nat) (w : World) (h : Hp w Bh ax K cK ar n c E) :
    Calls Try.prog 60 #[.pointer (some ⟨Bh, 0, none⟩)] w fun e w' => e = .returned (.int .i64 n) ∧ w' = w := by
  obtain ⟨h0, h1, _⟩ := h.cells
  clear h
  go_enter Try.func60, Try.ntmps60
  go_wp2_with fail
  go_ret
  exact ⟨rfl, rfl⟩
/-- A boxed entry. -/
def Box (w : World) (b k r : Nat) : Prop := w.heap[b]? = some (.cells #[.int .u32 k, .int .u32 r] 50)
theorem boxes (w : World) (k1 r1 k2 r2 : Nat) : Hid (Box ((w.alloc (.cells #[.int .u32 k1, .int .u32 r1] 50)).alloc (.cells #[.int .u32 k2, .int .u32 r2] 50)).drew w.heap.size k1 r1 ∧ Box ((w.alloc (.cells #[.int .u32 k1, .int .u32 r1] 50)).alloc (.cells #[.int .u32 k2, .int .u32 r2] 50)).drew (w.heap.size + 1) k2 r2 ∧ Below w.heap.size w ((w.alloc (.cells #[.int .u32 k1, .int .u32 r1] 50)).alloc (.cells #[.int .u32 k2, .int .u32 r2] 50)).drew) := by
  obtain ⟨_, hb, h1, h2⟩ := two_alloc w (.cells #[.int .u32 k1, .int .u32 r1] 50) (.cells #[.int .u32 k2, .int .u32 r2] 50)
  exact ⟨h1, h2, ⟨hb.os, hb.tape, hb.output, hb.size, hb.block⟩⟩
set_option maxHeartbeats 1600000 in
theorem hless_any (Bh : Nat) (ax ar : Option Addr) (wd K cK n c i j : Nat) (E : Nat → Nat × Nat) (N : Nat → Nat) (X : Nat → Nat → Int) (w : World) (hw0 : 0 < wd) (hw : wd ≤ 32) (hK : K ≤ 8192) (hi : i < n) (hj : j < n) (hn : n ≤ 8192)
    (oi : (E i).1 < K ∧ (E i).2 < N (E i).1 ∧ N (E i).1 ≤ 4096) (oj : (E j).1 < K ∧ (E j).2 < N (E j).1 ∧ N (E j).1 ≤ 4096) (hX : ∀ k x, 0 ≤ X k x ∧ X k x ≤ 255) (h : Hp w Bh ax K cK ar n c E) (hx : Ixs w ax wd K N X) :
    Calls Try.prog 61 #[.pointer (some ⟨Bh, 0, none⟩), .int .i64 i, .int .i64 j] w fun e w' => e = .returned (.bool ((tab wd K N X).ltb (E i) (E j))) ∧ Below w.heap.size w w' := by
  obtain ⟨h0, h1, _⟩ := h.cells
  obtain ⟨R, rfl, hne, he⟩ : ∃ R, ar = some ⟨R, 0, none⟩ ∧ R ≠ Bh ∧ Ent w R n E := by
    rcases h.2 with g | g
    · omega
    · exact g
  obtain ⟨a0, a1⟩ := he.cell hi
  obtain ⟨b0, b1⟩ := he.cell hj
  have hl := h.lt
  have hR := he.lt
  obtain ⟨k1, hk1⟩ : ∃ k1, k1 = (E i).1 := ⟨_, rfl⟩
  obtain ⟨r1, hr1⟩ : ∃ r1, r1 = (E i).2 := ⟨_, rfl⟩
  obtain ⟨k2, hk2⟩ : ∃ k2, k2 = (E j).1 := ⟨_, rfl⟩
  obtain ⟨r2, hr2⟩ : ∃ r2, r2 = (E j).2 := ⟨_, rfl⟩
  rw [← hk1] at a0 oi
  rw [← hr1] at a1 oi
  rw [← hk2] at b0 oj
  rw [← hr2] at b1 oj
  have HE := hide (And.intro hk1 (And.intro hr1 (And.intro hk2 hr2)))
  have HX := hide (And.intro hX hx)
  have i1 : (i : Int) < (n : Int) := by omega
  have j1 : (j : Int) < (n : Int) := by omega
  clear h he hk1 hr1 hk2 hr2 hX hx
  go_enter Try.func61, Try.ntmps61
  go_upto_region 1 with fail
  go_cut [7, 8] (fun s7 s8 wx => ∃ b7 b8, s7 = .pointer (some ⟨b7, 0, none⟩) ∧ s8 = .pointer (some ⟨b8, 0, none⟩) ∧ Hid (Box wx b7 k1 r1 ∧ Box wx b8 k2 r2 ∧ Below w.heap.size w wx))
  case first =>
    go_region
    all_goals (go_wp2_with fail; go_meet)
    all_goals first
      | exact ⟨_, _, rfl, rfl, boxes w k1 r1 k2 r2⟩
      | exact ⟨_, _, rfl, rfl, ⟨(boxes w k2 r2 k1 r1).2.1, (boxes w k2 r2 k1 r1).1, (boxes w k2 r2 k1 r1).2.2⟩⟩
  case rest =>
  obtain ⟨b7, b8, rfl, rfl, hb⟩ := hcut
  have g70 : wc.cell? ⟨b7, 0, none⟩ = some (.int .u32 k1) := cell_of_row _ _ 0 _ _ _ hb.out.1
  have g71 : wc.cell? ⟨b7, 1, none⟩ = some (.int .u32 r1) := cell_of_row _ _ 1 _ _ _ hb.out.1
  have g80 : wc.cell? ⟨b8, 0, none⟩ = some (.int .u32 k2) := cell_of_row _ _ 0 _ _ _ hb.out.2.1
  have g81 : wc.cell? ⟨b8, 1, none⟩ = some (.int .u32 r2) := cell_of_row _ _ 1 _ _ _ hb.out.2.1
  have gh : wc.cell? ⟨Bh, 0, none⟩ = some (.slice ax K cK) := (hb.out.2.2.cell hl).trans h0
  have l7 : b7 < wc.heap.size := block_lt_of_cell g70
  have l8 : b8 < wc.heap.size := block_lt_of_cell g80
  have lh : Bh < wc.heap.size := block_lt_of_cell gh
  have hbx : Hid (Below wc.heap.size wc wc.drew) := ⟨rfl, rfl, rfl, Nat.le_refl _, fun _ _ => rfl⟩
  have CN : Hid (∀ W : World, Hid (Below wc.heap.size wc W) → ∀ k r, (k < K ∧ r < N k ∧ N k ≤ 4096) → Calls Try.prog 29 #[.agg #[.int .u32 (k : Nat), .int .u32 (r : Nat)], .slice ax K cK] W fun e w' => ∃ B off, e = .returned (.slice (some ⟨B, off, none⟩) wd wd) ∧ Hid (∀ t, t < wd → wc.cell? ⟨B, off + t, none⟩ = some (.int .u8 (X k (r * wd + t)))) ∧ Hid (Below wc.heap.size wc w')) := fun W hW k r ho => by
    refine (oname_any ax wd K cK k r N X wc W hw0 hw hK ho.1 ho.2.1 ho.2.2 (HX.out.2.below hb.out.2.2) hW.out).mono ?_
    rintro e w' ⟨B, off, rfl, hc, hb'⟩
    exact ⟨B, off, rfl, hc, hW.out.trans (hb'.mono hW.out.size)⟩
  obtain ⟨v, hv⟩ : ∃ v, v = lexF (fun t => X k1 (r1 * wd + t)) (fun t => X k2 (r2 * wd + t)) wd := ⟨_, rfl⟩
  have CM : Hid (∀ W : World, Hid (Below wc.heap.size wc W) → ∀ B1 o1 B2 o2, Hid (∀ t, t < wd → wc.cell? ⟨B1, o1 + t, none⟩ = some (.int .u8 (X k1 (r1 * wd + t)))) → Hid (∀ t, t < wd → wc.cell? ⟨B2, o2 + t, none⟩ = some (.int .u8 (X k2 (r2 * wd + t)))) →
      Calls Try.prog 33 #[.slice (some ⟨B1, o1, none⟩) wd wd, .slice (some ⟨B2, o2, none⟩) wd wd] W fun e w' => e = .returned (.int .i64 v) ∧ w' = W) := fun W hW B1 o1 B2 o2 c1 c2 => by
    refine (cmp_any B1 o1 wd B2 o2 wd wd _ _ W (fun t ht => (hW.out.cell (block_lt_of_cell (c1.out t ht))).trans (c1.out t ht)) (fun t ht => (hW.out.cell (block_lt_of_cell (c2.out t ht))).trans (c2.out t ht)) (fun t ht => HX.out.1 _ _) (fun t ht => HX.out.1 _ _)).mono ?_
    rintro e w' ⟨h, rfl⟩
    exact ⟨by rw [hv]; exact h.eq, rfl⟩
  have HV := hide hv
  clear hv
  go_wp2_with fail
  go_region_held3 (fun W => W.cell? ⟨b7, 0, none⟩ = some (.int .u32 k1) ∧ W.cell? ⟨b7, 1, none⟩ = some (.int .u32 r1) ∧ W.cell? ⟨b8, 0, none⟩ = some (.int .u32 k2) ∧ W.cell? ⟨b8, 1, none⟩ = some (.int .u32 r2) ∧ W.cell? ⟨Bh, 0, none⟩ = some (.slice ax K cK)) (go_keep)
    (first
      | (go_at_call 29; refine (CN.out _ (by assumption) _ _ (by assumption)).mono ?_; intro e w1 he; obtain ⟨B1, o1, rfl, hc1, hw1⟩ := he; have G1 := (hw1.out.cell l7).trans g70; have G2 := (hw1.out.cell l7).trans g71; have G3 := (hw1.out.cell l8).trans g80; have G4 := (hw1.out.cell l8).trans g81; have G5 := (hw1.out.cell lh).trans gh)
      | (go_at_call 33; refine (CM.out _ (by assumption) _ _ _ _ (by assumption) (by assumption)).mono ?_; rintro e w1 ⟨rfl, rfl⟩))
  have HB : Hid (Below w.heap.size w w1) := hb.out.2.2.trans (hw1.out.mono hb.out.2.2.size)
  have hE : Hid ((tab wd K N X).ltb (E i) (E j) = (decide (key (fun t => X k1 (r1 * wd + t)) wd < key (fun t => X k2 (r2 * wd + t)) wd) || (decide (key (fun t => X k1 (r1 * wd + t)) wd = key (fun t => X k2 (r2 * wd + t)) wd) && decide (k1 < k2)))) := by
    rw [HE.out.1, HE.out.2.1, HE.out.2.2.1, HE.out.2.2.2]; rfl
  clear CN CM hb hbx
  rcases lexF_key (X := fun t => X k1 (r1 * wd + t)) (Y := fun t => X k2 (r2 * wd + t)) wd (fun t ht => HX.out.1 _ _) (fun t ht => HX.out.1 _ _) with ⟨e, g⟩ | ⟨e, g⟩ | ⟨e, g⟩
  · obtain rfl : v = -1 := HV.out.trans e
    have HG := hide g
    clear e g
    go_wp2
    go_ret
    refine ⟨?_, HB.out⟩
    rw [hE.out, decide_eq_true HG.out]; rfl
  · obtain rfl : v = 0 := HV.out.trans e
    have HG := hide g
    clear e g
    go_wp2
    go_ret
    refine ⟨?_, HB.out⟩
    rw [hE.out, HG.out]
    simp
  · obtain rfl : v = 1 := HV.out.trans e
    have HG := hide g
    clear e g
    go_wp2
    go_ret
    refine ⟨?_, HB.out⟩
    have g := HG.out
    rw [hE.out, decide_eq_false (by omega), decide_eq_false (by omega)]; rfl
end Go.Proofs.Qxb6618949a
