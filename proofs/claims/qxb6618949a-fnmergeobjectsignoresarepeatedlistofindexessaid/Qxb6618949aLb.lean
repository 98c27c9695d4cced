import Derived.Test.Qxb6618949aLa
import Derived.WalkKit
import Derived.WalkSpells
import Derived.WalkLawsBesides
import Derived.Deep.QuietTactic
import Derived.BigQuiet
import Derived.Deep.DeepCutAuto
import Derived.Deep.Slices
namespace Go.Proofs.Qxb6618949a
open Go.RowKit
set_option linter.unusedVariables false
/-- The pointers of the Indexes. -/
def Ptrs (w : World) (b wd K : Nat) (N : Nat → Nat) (X : Nat → Nat → Int) (q : Nat → Nat) : Prop := ∀ k, k < K → w.cell? ⟨b, k, none⟩ = some (.pointer (some ⟨q k, 0, none⟩)) ∧ Ix w (q k) wd (N k) (X k)
theorem ptrs_of {w : World} {b wd K : Nat} {N : Nat → Nat} {X : Nat → Nat → Int} (h : Ixs w (some ⟨b, 0, none⟩) wd K N X) : ∃ q, Ptrs w b wd K N X q := by
  have each : ∀ k, k < K → ∃ q, w.cell? ⟨b, k, none⟩ = some (.pointer (some ⟨q, 0, none⟩)) ∧ Ix w q wd (N k) (X k) := fun k hk => by
    obtain ⟨bx, ox, q, e, h1, h2⟩ := h k hk
    simp only [Option.some.injEq, Addr.mk.injEq, and_true] at e
    obtain ⟨rfl, rfl⟩ := e
    rw [Nat.zero_add] at h1
    exact ⟨q, h1, h2⟩
  refine ⟨fun k => if h : k < K then (each k h).choose else 0, fun k hk => ?_⟩
  simp only [dif_pos hk]
  exact (each k hk).choose_spec
/-- The doubled list in the making. -/
def Tw (w wr : World) (J k : Nat) (q : Nat → Nat) : Prop :=
  ∃ cu, wr.heap[w.heap.size]? = some (.cells cu 37) ∧ cu.size = 2 * J ∧ (∀ i, i < k → cu[i]? = some (.pointer (some ⟨q i, 0, none⟩)) ∧ cu[J + i]? = some (.pointer (some ⟨q i, 0, none⟩))) ∧ Below w.heap.size w wr
theorem Tw.step {w wr : World} {J k : Nat} {q : Nat → Nat} (h : Tw w wr J k q) (hk : k < J) :
    Tw w ((wr.setCell ⟨w.heap.size, k, none⟩ (.pointer (some ⟨q k, 0, none⟩))).setCell ⟨w.heap.size, J + k, none⟩ (.pointer (some ⟨q k, 0, none⟩))) J (k + 1) q := by
  obtain ⟨cu, h1, h2, h3, h4⟩ := h
  refine ⟨_, heap_setCell_same _ _ _ _ _ _ (heap_setCell_same _ _ _ _ _ _ h1), by simp; exact h2, fun i hi => ?_, (h4.setCell (Nat.le_refl _) _).setCell (Nat.le_refl _) _⟩
  by_cases e : i = k
  · subst e
    refine ⟨?_, ?_⟩
    · rw [Array.getElem?_setIfInBounds_ne (by omega), Array.getElem?_setIfInBounds]; simp; omega
    · rw [Array.getElem?_setIfInBounds]; simp; omega
  · have := h3 i (by omega)
    refine ⟨?_, ?_⟩
    · rw [Array.getElem?_setIfInBounds_ne (by omega), Array.getElem?_setIfInBounds_ne (by omega)]; exact this.1
    · rw [Array.getElem?_setIfInBounds_ne (by omega), Array.getElem?_setIfInBounds_ne (by omega)]; exact this.2
theorem Tw.bel {w wr : World} {J k : Nat} {q : Nat → Nat} (h : Tw w wr J k q) : Below w.heap.size w wr := by
  obtain ⟨cu, h1, h2, h3, h4⟩ := h
  exact h4
def dbl {α : Type} (J : Nat) (f : Nat → α) : Nat → α := fun k => if k < J then f k else f (k - J)
theorem dbl_lt {α : Type} {J : Nat} {f : Nat → α} {k : Nat} (h : k < J) : dbl J f k = f k := by unfold dbl; rw [if_pos h]
theorem dbl_ge {α : Type} {J : Nat} {f : Nat → α} {k : Nat} (h : ¬ k < J) : dbl J f k = f (k - J) := by unfold dbl; rw [if_neg h]
theorem Tw.ixs {w wr : World} {b wd J : Nat} {N : Nat → Nat} {X : Nat → Nat → Int} {q : Nat → Nat} (h : Tw w wr J J q) (hp : Ptrs w b wd J N X q) : Ixs wr (some ⟨w.heap.size, 0, none⟩) wd (2 * J) (dbl J N) (dbl J X) := by
  obtain ⟨cu, h1, h2, h3, h4⟩ := h
  intro k hk
  by_cases e : k < J
  · refine ⟨w.heap.size, 0, q k, rfl, ?_, ?_⟩
    · rw [cell_of_row _ _ _ _ _ _ h1, Nat.zero_add]; exact (h3 k e).1
    · rw [dbl_lt e, dbl_lt e]; exact (hp k e).2.below h4
  · refine ⟨w.heap.size, 0, q (k - J), rfl, ?_, ?_⟩
    · rw [cell_of_row _ _ _ _ _ _ h1, Nat.zero_add]
      have := (h3 (k - J) (by omega)).2
      rw [show J + (k - J) = k by omega] at this; exact this
    · rw [dbl_ge e, dbl_ge e]; exact (hp (k - J) (by omega)).2.below h4
theorem tab_twice (wd J : Nat) (N : Nat → Nat) (X : Nat → Nat → Int) : tab wd (2 * J) (dbl J N) (dbl J X) = (tab wd J N X).twice := by
  unfold tab Tab.twice
  congr 1
  funext k r
  by_cases e : k < J
  · simp only [dbl, if_pos e]
  · simp only [dbl, if_neg e]
theorem rows_dbl1 {J : Nat} {N : Nat → Nat} : ∀ d, d ≤ J → rows (dbl J N) d = rows N d
  | 0, _ => rfl
  | d + 1, h => by simp only [rows]; rw [rows_dbl1 d (by omega), dbl_lt (by omega)]
theorem rows_dbl2 {J : Nat} {N : Nat → Nat} : ∀ d, d ≤ J → rows (dbl J N) (J + d) = rows N J + rows N d
  | 0, _ => rows_dbl1 J (Nat.le_refl _)
  | d + 1, h => by
    rw [← Nat.add_assoc]
    simp only [rows]
    rw [rows_dbl2 d (by omega), dbl_ge (by omega), show J + d - J = d by omega]
    omega
theorem rows_dbl {J : Nat} {N : Nat → Nat} (h : rows N J ≤ 4096) : ∀ k, k ≤ 2 * J → rows (dbl J N) k ≤ 8192 := fun k hk => by
  have h1 := rows_at (N := dbl J N) hk
  have h2 := rows_dbl2 (N := N) J (Nat.le_refl J)
  rw [show J + J = 2 * J by omega] at h2
  omega
theorem dbl_all {J : Nat} {N : Nat → Nat} (h : ∀ k, k < J → N k ≤ 4096) : ∀ k, k < 2 * J → dbl J N k ≤ 4096 := fun k hk => by
  by_cases e : k < J
  · rw [dbl_lt e]; exact h k e
  · rw [dbl_ge e]; exact h (k - J) (by omega)
theorem dbl_byt {J : Nat} {X : Nat → Nat → Int} (h : ∀ k x, 0 ≤ X k x ∧ X k x ≤ 255) : ∀ k x, 0 ≤ dbl J X k x ∧ dbl J X k x ≤ 255 := fun k x => by
  by_cases e : k < J
  · rw [dbl_lt e]; exact h k x
  · rw [dbl_ge e]; exact h (k - J) x
theorem Half.cells {w w' : World} {b m : Nat} {Z : Nat → Nat} (h : Half w b m m Z) (hb : Below w.heap.size w w') : ∀ t, t < m → w'.cell? ⟨b, t, none⟩ = Option.some (.int .u32 (Z t)) := fun t ht => (hb.cell (block_lt_of_cell (h.cell ht))).trans (h.cell ht)
set_option maxRecDepth 20000 in
set_option maxHeartbeats 6400000 in
theorem law4 (an ao : Option Addr) (K J cN cO : Nat) (a : Int) (L M : Nat → Nat) (X Y : Nat → Nat → Int) (w : World) (hX : ∀ k x, 0 ≤ X k x ∧ X k x ≤ 255) (h : Lst .u8 w an K L X) (ho : Lst .i64 w ao J M Y) :
    Calls Try.prog 4 #[.slice an K cN, .slice ao J cO, .int .i64 a] w fun e w' => Done w e w' := by
  have HX := hide (And.intro h (And.intro ho hX))
  clear h ho hX
  go_enter Try.func4, Try.ntmps4
  go_wp2_with fail
  refine (bytes14_any an ao K J cN cO a L M X Y w HX.out.1 HX.out.2.1).mono ?_
  rintro e w1 ⟨⟨b, rfl, hb⟩, rfl⟩
  have HB0 := hide hb
  clear hb
  cases b
  · go_wp2_with fail
    go_ret
    exact ⟨rfl, Below.refl _ _⟩
  have HB := hide (HB0.out rfl)
  clear HB0
  by_cases hK : K ≤ 4096
  rotate_left
  · have k1 : (4096 : Int) < (K : Int) := by omega
    go_wp2_with fail
    go_ret
    exact ⟨rfl, Below.refl _ _⟩
  by_cases hJ : J ≤ 4096
  rotate_left
  · have k1 : ¬ (4096 : Int) < (K : Int) := by omega
    have k2 : (4096 : Int) < (J : Int) := by omega
    go_wp2_with fail
    go_ret
    exact ⟨rfl, Below.refl _ _⟩
  have k1 : ¬ (4096 : Int) < (K : Int) := by omega
  have k2 : ¬ (4096 : Int) < (J : Int) := by omega
  have k3 : (K : Int) ≤ 4096 := by omega
  have k4 : (J : Int) ≤ 4096 := by omega
  go_wp2_with fail
  go_loopw [7, 8] (fun s x wr => ∃ (S k : Nat), k ≤ K ∧ S ≤ 1048576 ∧ s = .int .i64 S ∧ x = .int .i64 k ∧ wr = w1) (fun _ x _ => K - (intOf x).toNat)
  case atStart => exact ⟨0, 0, by omega, by omega, rfl, rfl, rfl⟩
  case round =>
  obtain ⟨S, k, hk, hS, rfl, rfl, rfl⟩ := hrel
  have s1 : (S : Int) ≤ 1048576 := by omega
  by_cases hlt : k < K
  · have j1 : (k : Int) < (K : Int) := by omega
    obtain ⟨bn, on, nm, cn, rfl, e0, _⟩ := HX.out.1 k hlt
    have l1 : (L k : Int) ≤ 1048576 := by have := HB.out.2.2.1 k hlt; omega
    by_cases hSL : S + (24 + L k) ≤ 1048576
    · have l3 : ¬ (1048576 : Int) < (S : Int) + (24 + (L k : Int)) := by omega
      go_wp2_with fail
      go_roundw
      case rel => exact ⟨S + (24 + L k), k + 1, by omega, hSL, by go_num, by go_num, by trivial⟩
      case measure => simp [intOf]; omega
    · have l3 : (1048576 : Int) < (S : Int) + (24 + (L k : Int)) := by omega
      go_wp2_with fail
      go_ret
      exact ⟨rfl, Below.refl _ _⟩
  obtain rfl : K = k := by omega
  go_wp2_with fail
  go_loopw [7, 9] (fun s x wr2 => ∃ (S k : Nat), k ≤ J ∧ S ≤ 1048576 ∧ s = .int .i64 S ∧ x = .int .i64 k ∧ wr2 = wr) (fun _ x _ => J - (intOf x).toNat)
  case atStart => exact ⟨S, 0, by omega, by omega, rfl, rfl, rfl⟩
  case round =>
  obtain ⟨S, k, hk, hS, rfl, rfl, rfl⟩ := hrel
  have s1 : (S : Int) ≤ 1048576 := by omega
  by_cases hlt : k < J
  · have j1 : (k : Int) < (J : Int) := by omega
    obtain ⟨bn, on, nm, cn, rfl, e0, _⟩ := HX.out.2.1 k hlt
    have l1 : (M k : Int) ≤ 1048576 := by have := HB.out.2.2.2 k hlt; omega
    by_cases hSL : S + (24 + 8 * M k) ≤ 1048576
    · have l3 : ¬ (1048576 : Int) < (S : Int) + (24 + 8 * (M k : Int)) := by omega
      go_wp2_with fail
      go_roundw
      case rel => exact ⟨S + (24 + 8 * M k), k + 1, by omega, hSL, by go_num, by go_num, by trivial⟩
      case measure => simp [intOf]; omega
    · have l3 : (1048576 : Int) < (S : Int) + (24 + 8 * (M k : Int)) := by omega
      go_wp2_with fail
      go_ret
      exact ⟨rfl, Below.refl _ _⟩
  obtain rfl : J = k := by omega
  go_upto_region 18 with fail
  go_cut [70] (fun c wx => c = .bool (decide (a ≠ 20 ∧ a ≠ 32)) ∧ wx = wr)
  case first =>
    by_cases h20 : a = 20
    · subst h20
      go_wp2_with fail
      go_meet
      exact ⟨by simp, rfl⟩
    · have n1 : (a != 20) = true := by simpa using h20
      by_cases h32 : a = 32
      · subst h32
        go_wp2_with fail
        go_meet
        exact ⟨by simp, rfl⟩
      · have n2 : (a != 32) = true := by simpa using h32
        go_wp2_with fail
        go_meet
        exact ⟨by simp [h20, h32], rfl⟩
  case rest =>
  obtain ⟨rfl, rfl⟩ := hcut
  by_cases hno : a ≠ 20 ∧ a ≠ 32
  · rw [decide_eq_true hno]
    go_wp2_with fail
    go_ret
    exact ⟨rfl, Below.refl _ _⟩
  rw [decide_eq_false hno]
  obtain ⟨wd, rfl, hw0, hw1⟩ : ∃ wd : Nat, a = wd ∧ 0 < wd ∧ wd ≤ 32 := by
    by_cases h20 : a = 20
    · exact ⟨20, h20, by omega, by omega⟩
    · by_cases h32 : a = 32
      · exact ⟨32, h32, by omega, by omega⟩
      · exact absurd ⟨h20, h32⟩ hno
  clear hno
  have w1 : (wd : Int) ≤ 32 := by omega
  go_wp2_with fail
  refine (wf_any an ao K J cN cO wd L M X Y wc hw0 hw1 HB.out.1 HB.out.2.1 HB.out.2.2.1 HB.out.2.2.2 HX.out.2.2 HX.out.1 HX.out.2.1).mono ?_
  rintro e w1 ⟨⟨b, rfl, hb⟩, m, rfl⟩
  have HW0 := hide hb
  clear hb
  cases b
  · go_wp2_with fail
    go_ret
    exact ⟨rfl, drewN_below (Below.refl _ _) _⟩
  have HW := hide (HW0.out rfl)
  clear HW0
  obtain rfl : J = K := HW.out.1
  have HG := hide (good_mk hw0 hw1 hJ HX.out.2.2 HX.out.1 HX.out.2.1 HW.out.2)
  clear HX HB HW
  have HG1 := hide (HG.out.below (drewN_below (Below.refl _ _) m))
  go_wp2_with fail
  refine (build_any an ao J cN cO wd M X Y (wc.drewN m) hw0 hw1 (by omega) HG.out.hN HG1.out.names HG1.out.offs).mono ?_
  rintro e w2 ⟨bx, rfl, h1, h2⟩
  have HB := hide (And.intro h1 (Below.trans (drewN_below (Below.refl wc.heap.size wc) m) h2))
  clear h1 h2
  obtain ⟨q, hq⟩ := ptrs_of HB.out.1
  have HQ := hide hq
  clear hq
  obtain ⟨D, hD⟩ : ∃ D : Nat, D = 2 * J := ⟨_, rfl⟩
  have hD1 : 2 * (J : Int) = (D : Int) := by omega
  have hD2 : (D : Int) ≤ 8192 := by omega
  obtain ⟨Lz, hLz, hmk⟩ := mk27 D (by omega)
  have HD := hide hD
  have HL := hide (hLz.trans hD)
  clear hD hLz
  go_wp2_with fail
  go_loopw [12] (fun x wr => ∃ k : Nat, k ≤ J ∧ x = .int .i64 k ∧ Hid (Tw w2 wr J k q)) (fun x _ => J - (intOf x).toNat)
  case atStart => exact ⟨0, by omega, rfl, Lz, heap_alloc_new _ _, HL.out, fun i hi => by omega, (Below.refl _ _).alloc (Nat.le_refl _) _⟩
  case round =>
  obtain ⟨k, hk, rfl, ht⟩ := hrel
  by_cases hlt : k < J
  · have j1 : (k : Int) < (J : Int) := by omega
    obtain ⟨cu, t1, t2, t3, t4⟩ := ht.out
    have c1 := (HQ.out k hlt).1
    have hbx : bx < w2.heap.size := block_lt_of_cell c1
    have c2 : wr.cell? ⟨bx, k, none⟩ = some (.pointer (some ⟨q k, 0, none⟩)) := (t4.cell (block_lt_of_cell c1)).trans c1
    have f1 : ∀ x, wr.frozen? ⟨w2.heap.size, x, none⟩ = false := fun x => frozen_of_row wr _ x _ 37 t1
    have f2 := f1 k
    have f3 := f1 (J + k)
    obtain ⟨u1, hu1⟩ : ∃ u1, wr.cell? ⟨w2.heap.size, k, none⟩ = some u1 := by
      rw [cell_of_row _ _ _ _ _ _ t1]; exact ⟨cu[k], Array.getElem?_eq_getElem (by omega)⟩
    obtain ⟨u2, hu2⟩ : ∃ u2, wr.cell? ⟨w2.heap.size, J + k, none⟩ = some u2 := by
      rw [cell_of_row _ _ _ _ _ _ t1]; exact ⟨cu[J + k], Array.getElem?_eq_getElem (by omega)⟩
    have n1 : ¬ bx = w2.heap.size := by omega
    have n2 : ¬ w2.heap.size = bx := by omega
    have n3 : (k : Int) < (D : Int) := by have := HD.out; omega
    have n4 : (J : Int) + (k : Int) < (D : Int) := by have := HD.out; omega
    clear t1 t2 t3 t4 c1 f1
    go_wp2_with fail
    go_roundw
    case rel => exact ⟨k + 1, by omega, by go_num, ht.out.step hlt⟩
    case measure => simp [intOf]; omega
  obtain rfl : J = k := by omega
  have HT := hide (And.intro (ht.out.ixs HQ.out) (HB.out.1.below ht.out.bel))
  have HW := hide (HB.out.2.trans (Below.mono ht.out.bel HB.out.2.size))
  go_wp2_with fail
  refine (zm_any wr (some ⟨bx, 0, none⟩) wd J J M X HT.out.2 hw0 hw1 (by omega) HG.out.byt HG.out.hN (fun k hk => by have := HG.out.hR k hk; omega) HG.out.sorted).mono ?_
  rintro e w3 ⟨mm, bi, br, O, rfl, z1, z2, z3, z4, z5⟩
  have HZ := hide (And.intro z1 (And.intro z2 (And.intro z3 (And.intro z5 (HW.out.trans (Below.mono z5 HW.out.size))))))
  have HS : Hid (tab wd (2 * J) (dbl J M) (dbl J X)).Sorted := by
    show (tab wd (2 * J) (dbl J M) (dbl J X)).Sorted
    rw [tab_twice]; exact Tab.twice_sorted HG.out.sorted
  clear z1 z2 z3 z5
  go_wp2_with fail
  clear hD1 hD2 hmk HL
  obtain rfl := HD.out
  refine (zm_any w3 (some ⟨w2.heap.size, 0, none⟩) wd (2 * J) (2 * J) (dbl J M) (dbl J X) (HT.out.1.below HZ.out.2.2.2.1) hw0 hw1 (by omega) (dbl_byt HG.out.byt) (dbl_all HG.out.hN) (rows_dbl (HG.out.hR J (Nat.le_refl _))) HS.out).mono ?_
  rintro e w4 ⟨m2, bi2, br2, O2, rfl, z1, z2, z3, z6, z5⟩
  rw [tab_twice] at z3
  obtain ⟨e1, e2⟩ := HZ.out.2.2.1.same z3
  have e1 := e1.symm
  subst e1
  have HZ2 := hide (And.intro z1 (And.intro z2 (And.intro e2 (And.intro z5 (HZ.out.2.2.2.2.trans (Below.mono z5 HZ.out.2.2.2.2.size))))))
  clear z1 z2 z3 z5 e2
  have HG3 := hide (HG.out.below HZ2.out.2.2.2.2)
  go_wp2_with fail
  refine (count_any an ao J cN cO wd M X Y w4 hw0 hw1 (by omega) HG.out.hN (fun k hk => by have := HG.out.hR k hk; omega) HG.out.byt HG3.out.names HG3.out.offs HG.out.sorted).mono ?_
  rintro e w5 ⟨rfl, m4, rfl⟩
  have hnum : (tab wd J M X).ct M J = mm := HZ.out.2.2.1.num.symm
  rw [hnum]
  clear hnum
  have z8 : (mm : Int) ≤ 8192 := by omega
  go_wp2_with fail
  go_loopw [18] (fun x wr => ∃ (t j : Nat), t ≤ mm ∧ x = .int .i64 t ∧ wr = w4.drewN j) (fun x _ => mm - (intOf x).toNat)
  case atStart => exact ⟨0, m4, by omega, rfl, rfl⟩
  case round =>
  obtain ⟨t, j, ht, rfl, rfl⟩ := hrel
  by_cases hlt : t < mm
  rotate_left
  · obtain rfl : mm = t := by omega
    go_wp2_with fail
    go_ret
    exact ⟨rfl, drewN_below HZ2.out.2.2.2.2 _⟩
  have c1 := HZ.out.1.cells HZ2.out.2.2.2.1 t hlt
  have c2 := HZ.out.2.1.cells HZ2.out.2.2.2.1 t hlt
  have c3 := HZ2.out.1.cell hlt
  have c4 := HZ2.out.2.1.cell hlt
  have hs := HZ2.out.2.2.1 t hlt
  simp only [← hs] at c3 c4
  clear hs
  obtain ⟨k, hk⟩ : ∃ k, (O t).1 = k := ⟨_, rfl⟩
  obtain ⟨r, hr⟩ : ∃ r, (O t).2 = r := ⟨_, rfl⟩
  simp only [hk, hr] at c1 c2 c3 c4
  clear hk hr
  have t1 : (t : Int) < (mm : Int) := by omega
  go_upto_region 37 with fail
  go_quiet (fail)
  go_wp2_with fail
  go_roundw
  case rel => exact ⟨t + 1, _, by omega, by go_num, rfl⟩
  case measure => simp [intOf]; omega
end Go.Proofs.Qxb6618949a
