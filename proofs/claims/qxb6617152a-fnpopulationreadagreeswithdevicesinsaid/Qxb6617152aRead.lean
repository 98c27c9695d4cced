import Derived.Test.Qxb6617152aPtr
import Derived.WalkKit
import Derived.WalkSpells
import Derived.WalkLawsBesides
import Derived.Deep.QuietTactic
import Derived.BigQuiet
import Derived.RegionTactic
import Derived.Deep.RegionHeld3
import Derived.BigRegion
namespace Go.Proofs.Qxb6617152a
open Go.RowKit
set_option linter.unusedVariables false
/-- Memory and streams are as they were. -/
def Like (w wr : World) : Prop := wr.heap = w.heap ∧ wr.os = w.os ∧ wr.tape = w.tape ∧ wr.output = w.output
theorem Like.refl (w : World) : Like w w := ⟨rfl, rfl, rfl, rfl⟩
theorem Like.cell {w wr : World} (h : Like w wr) (p : Addr) : wr.cell? p = w.cell? p := by unfold World.cell?; rw [h.1]
theorem Like.drewN {w wr : World} (h : Like w wr) (n : Nat) : Like w (wr.drewN n) := ⟨h.1, h.2.1, h.2.2.1, h.2.2.2⟩
theorem Like.trans {a b c : World} (h : Like a b) (k : Like b c) : Like a c := ⟨k.1.trans h.1, k.2.1.trans h.2.1, k.2.2.1.trans h.2.2.1, k.2.2.2.trans h.2.2.2⟩
theorem Like.below {w wr : World} (h : Like w wr) {B : Nat} : Below B w wr := ⟨h.2.1, h.2.2.1, h.2.2.2, by rw [h.1]; exact Nat.le_refl _, fun k _ => by rw [h.1]⟩
/-- The seven cells of a population. -/
def Pop (w : World) (B : Nat) (D : Int) (G pg ns nm : Nat) (aM aS aF : Option Addr) : Prop :=
  w.cell? ⟨B, 0, none⟩ = some (.int .i64 D) ∧ w.cell? ⟨B, 1, none⟩ = some (.int .i64 ((G : Int) + 1)) ∧ w.cell? ⟨B, 2, none⟩ = some (.int .i64 pg) ∧ w.cell? ⟨B, 3, none⟩ = some (.int .i64 ns) ∧
  w.cell? ⟨B, 4, none⟩ = some (.slice aM nm nm) ∧ w.cell? ⟨B, 5, none⟩ = some (.slice aS ns ns) ∧ w.cell? ⟨B, 6, none⟩ = some (.slice aF (G + 2) (G + 2))
theorem Pop.of_cell {w w' : World} {B : Nat} {D : Int} {G pg ns nm : Nat} {aM aS aF : Option Addr} (h : Pop w B D G pg ns nm aM aS aF) (hc : ∀ o, w'.cell? ⟨B, o, none⟩ = w.cell? ⟨B, o, none⟩) : Pop w' B D G pg ns nm aM aS aF := by
  unfold Pop at *
  rw [hc, hc, hc, hc, hc, hc, hc]; exact h
theorem Row.of_cell {k : IntKind} {w w' : World} {a : Option Addr} {n : Nat} {Z : Nat → Int} (h : Row k w a n Z) (hc : ∀ b off, a = some ⟨b, off, none⟩ → ∀ o, w'.cell? ⟨b, o, none⟩ = w.cell? ⟨b, o, none⟩) : Row k w' a n Z := fun i hi => by
  obtain ⟨b, off, e, h1⟩ := h i hi
  exact ⟨b, off, e, (hc b off e _).trans h1⟩

/-- What read leaves. -/
def ReadPost (Bg : Nat) (D : Int) (G k P cnt lo hi nm : Nat) (aM aN : Option Addr) (S : Nat → Int) (w w' : World) : Prop :=
  ∃ R c', (w.heap.size ≤ R ∨ aN = some ⟨R, 0, none⟩) ∧ w'.cell? ⟨Bg, 0, none⟩ = some (.int .i64 (dvs D G k)) ∧ w'.cell? ⟨Bg, 1, none⟩ = some (.slice (cutA aM lo nm) (hi - lo) (nm - lo)) ∧ w'.cell? ⟨Bg, 2, none⟩ = some (.slice (some ⟨R, 0, none⟩) (cnt + 1) c') ∧
    Row .i32 w' (some ⟨R, 0, none⟩) (cnt + 1) (fun j => sum S (P + j) - sum S P) ∧ Below 0 w w' ∧ ∀ b, b < w.heap.size → b ≠ Bg → b ≠ R → w'.heap[b]? = w.heap[b]?
def Keeps (P : Nat) (w w' : World) : Prop := Below 0 w w' ∧ ∀ k, k < w.heap.size → k ≠ P → w'.heap[k]? = w.heap[k]?
theorem Keeps.cell {P : Nat} {w w' : World} (h : Keeps P w w') {p : Addr} (hp : p.block < w.heap.size) (hne : p.block ≠ P) : w'.cell? p = w.cell? p := World.cell?_of_block (w := w) (h.2 p.block hp hne)
theorem Keeps.frozen {P : Nat} {w w' : World} (h : Keeps P w w') {p : Addr} (hp : p.block < w.heap.size) (hne : p.block ≠ P) : w'.frozen? p = w.frozen? p := World.frozen?_of_block (w := w) (h.2 p.block hp hne)
theorem Keeps.setCell {P i : Nat} {w w' : World} (h : Keeps P w w') (v : Value) : Keeps P w (w'.setCell ⟨P, i, none⟩ v) :=
  ⟨⟨h.1.os, h.1.tape, h.1.output, by simp [World.setCell]; exact h.1.size, fun k hk => by omega⟩, fun k hk hne => by rw [heap_setCell_other _ _ _ _ hne]; exact h.2 k hk hne⟩
theorem Keeps.drewN {P n : Nat} {w w' : World} (h : Keeps P w w') : Keeps P w (w'.drewN n) := ⟨⟨h.1.os, h.1.tape, h.1.output, h.1.size, h.1.block⟩, h.2⟩
theorem Keeps.drew {P : Nat} {w w' : World} (h : Keeps P w w') : Keeps P w w'.drew := ⟨⟨h.1.os, h.1.tape, h.1.output, h.1.size, h.1.block⟩, h.2⟩
/-- The boundaries written so far. -/
def Bds (S : Nat → Int) (P j : Nat) (cur : Array Value) : Prop := ∀ i, i ≤ j → cur[i]? = some (.int .i32 (sum S (P + i) - sum S P))
theorem bds_step {S : Nat → Int} {P j : Nat} {cur : Array Value} (h : Bds S P j cur) (hs : j + 1 < cur.size) : Bds S P (j + 1) (cur.setIfInBounds (j + 1) (.int .i32 (sum S (P + j) - sum S P + S (P + j)))) := fun i hi => by
  by_cases e : i = j + 1
  · subst e
    rw [Array.getElem?_setIfInBounds_self_of_lt hs]
    have : sum S (P + (j + 1)) = sum S (P + j) + S (P + j) := rfl
    rw [this]; congr 2; omega
  · rw [Array.getElem?_setIfInBounds_ne (by omega)]; exact h i (by omega)
theorem bds_zero {S : Nat → Int} {P : Nat} {cur : Array Value} (hs : 0 < cur.size) : Bds S P 0 (cur.setIfInBounds 0 (.int .i32 0)) := fun i hi => by
  obtain rfl : i = 0 := by omega
  rw [Array.getElem?_setIfInBounds_self_of_lt hs]; simp
theorem read_post {Bg R c' : Nat} {D : Int} {G k P cnt lo hi nm : Nat} {aM aN : Option Addr} {S : Nat → Int} {w wr : World} {cu : Array Value} {v0 v1 v2 : Value} (hRN : w.heap.size ≤ R ∨ aN = some ⟨R, 0, none⟩)
    (hcu : wr.heap[R]? = some (.cells cu 21)) (hs : cnt + 1 ≤ cu.size) (hbd : Bds S P cnt cu) (hkp : Keeps R w wr) (y0 : wr.cell? ⟨Bg, 0, none⟩ = some v0) (y1 : wr.cell? ⟨Bg, 1, none⟩ = some v1) (y2 : wr.cell? ⟨Bg, 2, none⟩ = some v2) (hRg : R ≠ Bg) :
    ReadPost Bg D G k P cnt lo hi nm aM aN S w (((wr.setCell ⟨Bg, 0, none⟩ (.int .i64 (dvs D G k))).setCell ⟨Bg, 2, none⟩ (.slice (some ⟨R, 0, none⟩) (cnt + 1) c')).setCell ⟨Bg, 1, none⟩ (.slice (cutA aM lo nm) (hi - lo) (nm - lo))).drew := by
  have n01 : (⟨Bg, 0, none⟩ : Addr) ≠ ⟨Bg, 1, none⟩ := by simp
  have n02 : (⟨Bg, 0, none⟩ : Addr) ≠ ⟨Bg, 2, none⟩ := by simp
  have n12 : (⟨Bg, 1, none⟩ : Addr) ≠ ⟨Bg, 2, none⟩ := by simp
  have hbk : ∀ b, b ≠ Bg → (((wr.setCell ⟨Bg, 0, none⟩ (.int .i64 (dvs D G k))).setCell ⟨Bg, 2, none⟩ (.slice (some ⟨R, 0, none⟩) (cnt + 1) c')).setCell ⟨Bg, 1, none⟩ (.slice (cutA aM lo nm) (hi - lo) (nm - lo))).drew.heap[b]? = wr.heap[b]? := fun b hb => by
    show (((wr.setCell ⟨Bg, 0, none⟩ (.int .i64 (dvs D G k))).setCell ⟨Bg, 2, none⟩ (.slice (some ⟨R, 0, none⟩) (cnt + 1) c')).setCell ⟨Bg, 1, none⟩ (.slice (cutA aM lo nm) (hi - lo) (nm - lo))).heap[b]? = _
    rw [heap_setCell_other _ _ _ _ hb, heap_setCell_other _ _ _ _ hb, heap_setCell_other _ _ _ _ hb]
  refine ⟨R, c', hRN, ?_, ?_, ?_, ?_, ⟨hkp.1.os, hkp.1.tape, hkp.1.output, by simp [World.setCell, World.drew]; exact hkp.1.size, fun b hb => by omega⟩, fun b hb h1 h2 => (hbk b h1).trans (hkp.2 b hb h2)⟩
  · show World.cell? (World.setCell _ _ _) _ = _
    rw [World.cell?_setCell_other _ _ _ _ n01.symm, World.cell?_setCell_other _ _ _ _ n02.symm, World.cell?_setCell_same _ _ _ y0]
  · show World.cell? (World.setCell _ _ _) _ = _
    refine World.cell?_setCell_same _ _ _ (u := v1) ?_
    rw [World.cell?_setCell_other _ _ _ _ n12.symm, World.cell?_setCell_other _ _ _ _ n01]; exact y1
  · show World.cell? (World.setCell _ _ _) _ = _
    rw [World.cell?_setCell_other _ _ _ _ n12]
    refine World.cell?_setCell_same _ _ _ (u := v2) ?_
    rw [World.cell?_setCell_other _ _ _ _ n02]; exact y2
  · intro i hi
    refine ⟨R, 0, rfl, ?_⟩
    have h2 := hbk R hRg
    rw [hcu] at h2
    rw [cell_of_row _ _ _ _ _ _ h2, Nat.zero_add]
    exact hbd i (by omega)
set_option maxHeartbeats 1600000 in
theorem read_any (Bp Bg : Nat) (D : Int) (G pg ns nm k P cnt nN lo hi : Nat) (aM aS aF aN : Option Addr) (S F : Nat → Int) (w : World)
    (hk : k ≤ G) (hG : G ≤ 65536) (hns : ns ≤ 65536) (hnm : nm ≤ 65536) (hnN : nN ≤ 65536) (hpg : 1 ≤ pg) (hGp : G * pg ≤ ns) (hD1 : 256 * (G : Int) < D) (hD2 : D ≤ 256 * (G : Int) + 256)
    (hP : P = bnd G pg ns k) (hC : P + cnt = bnd G pg ns (k + 1)) (hPC : P + cnt ≤ ns) (hlh : lo ≤ hi) (hhn : hi ≤ nm)
    (hSb : ∀ i, i < ns → 0 ≤ S i ∧ S i ≤ 255) (hF0 : F k = lo) (hF1 : F (k + 1) = hi)
    (hp : Pop w Bp D G pg ns nm aM aS aF) (hS : Row .u8 w aS ns S) (hF : Row .i64 w aF (G + 2) F)
    (g0 : ∃ v, w.cell? ⟨Bg, 0, none⟩ = some v) (g1 : ∃ v, w.cell? ⟨Bg, 1, none⟩ = some v) (g2 : w.cell? ⟨Bg, 2, none⟩ = some (.slice aN nN nN)) (gf : ∀ o, w.frozen? ⟨Bg, o, none⟩ = false)
    (hN : Room w aN nN) (hgp : Bg ≠ Bp) (hA : ∀ B o, aN = some ⟨B, o, none⟩ → B ≠ Bp ∧ B ≠ Bg ∧ (∀ b o', aS = some ⟨b, o', none⟩ → b ≠ B) ∧ (∀ b o', aF = some ⟨b, o', none⟩ → b ≠ B)) (hgS : ∀ b o', aS = some ⟨b, o', none⟩ → b ≠ Bg) (hgF : ∀ b o', aF = some ⟨b, o', none⟩ → b ≠ Bg) :
    Calls Try.prog 27 #[.pointer (some ⟨Bp, 0, none⟩), .int .i64 k, .pointer (some ⟨Bg, 0, none⟩)] w fun e w' => e = .returned (.tuple #[]) ∧ ReadPost Bg D G k P cnt lo hi nm aM aN S w w' := by
  have hPm : (k : Int) * (pg : Int) = (P : Int) := by rw [hP]; exact bnd_mul hk
  have HC : Hid ((bnd G pg ns (k + 1) : Int) - (bnd G pg ns k : Int) = (cnt : Int)) := by unfold Hid; rw [← hC, ← hP]; omega
  have hcutS := run_cut8 aS ns ns P (P + cnt) .i64 .i64 (P : Int) ((P : Int) + (cnt : Int)) rfl (by omega) (by omega) (by omega)
  rw [Nat.add_sub_cancel_left] at hcutS
  have HP := hide hp
  have HPB := hide hP
  have HCB := hide hC
  have HF0 := hide hF0
  have HF1 := hide hF1
  have HNS : Hid (∀ W : World, W.heap = w.heap → Calls Try.prog 32 #[.pointer (some ⟨Bp, 0, none⟩), .int .i64 k] W fun e w' => e = .returned (.int .i64 (cnt : Int)) ∧ ∃ m, w' = W.drewN m) := fun W e => by
    have hc : ∀ p, W.cell? p = w.cell? p := fun p => by unfold World.cell?; rw [e]
    have h := namespacesOf_any Bp G pg ns k W hk hG hns hpg hGp ((hc _).trans hp.2.1) ((hc _).trans hp.2.2.1) ((hc _).trans hp.2.2.2.1)
    rw [HC.out] at h; exact h
  clear hP hC hF0 hF1
  obtain ⟨p0, p1, p2, p3, p4, p5, p6⟩ := hp
  go_enter Try.func27, Try.ntmps27
  go_wp2_with fail
  refine (devicesOf_any Bp D G k w hk hG hD1 hD2 p0).mono ?_
  rintro e w1 ⟨rfl, m1, rfl⟩
  go_wp2_with fail
  generalize hW2 : World.drewN w _ = w2
  have hl2 : Hid (Like w w2) := by subst hW2; exact ⟨rfl, rfl, rfl, rfl⟩
  clear hW2
  have p5' := (hl2.out.cell _).trans p5
  go_quiet ((go_at_call 32; exact Calls.quiet_of (HNS.out _ hl2.out.1)))
  generalize hW3 : World.drewN w2 _ = w3
  have hl3 : Hid (Like w w3) := by subst hW3; exact hl2.out.drewN _
  clear hW3 hl2 p5'
  have g2' := (hl3.out.cell _).trans g2
  go_wp2_with fail
  -- from := resize(g.nsFrom, len(sizes)+1)
  have hcc : ((cnt + 1 : Nat) : Int) = (cnt : Int) + 1 := by omega
  rw [← hcc]
  refine (resize_any aN nN (cnt + 1) w3 hnN (by omega) (by omega) (by unfold Room at *; rw [hl3.out.1]; exact hN)).mono ?_
  rintro e w4 ⟨R, c', cur, rfl, hR, hRs, hRn, hb4⟩
  have hsz3 : w3.heap.size = w.heap.size := by rw [hl3.out.1]
  have hRne : R ≠ Bp ∧ R ≠ Bg ∧ (∀ b o', aS = some ⟨b, o', none⟩ → b < w.heap.size → b ≠ R) ∧ (∀ b o', aF = some ⟨b, o', none⟩ → b < w.heap.size → b ≠ R) := by
    have hpl : Bp < w.heap.size := block_lt_of_cell p0
    have hgl : Bg < w.heap.size := block_lt_of_cell g2
    rcases hRn with h | h
    · exact ⟨by omega, by omega, fun b o' _ hb => by omega, fun b o' _ hb => by omega⟩
    · have h5 := hA R 0 h
      exact ⟨h5.1, h5.2.1, fun b o' e _ => h5.2.2.1 b o' e, fun b o' e _ => h5.2.2.2 b o' e⟩
  have hb04 : Below w.heap.size w w4 := (hl3.out.below).trans (hb4.mono (by omega))
  have HK4 : Hid (Keeps R w w4) := ⟨hb04.mono (Nat.zero_le _), fun b hb _ => hb04.block b hb⟩
  have HRN : Hid (w.heap.size ≤ R ∨ aN = some ⟨R, 0, none⟩) := hRn.imp (fun h => by omega) id
  have HNE := hide hRne
  have hR0 : w4.cell? ⟨R, 0, none⟩ = some cur[0] := by rw [cell_of_row _ _ _ _ _ _ hR]; simp
  have hRf := fun i => frozen_of_row w4 R i cur 21 hR
  have HR := hide (And.intro hR hRs)
  obtain ⟨u0, hu0⟩ : ∃ u0, w4.cell? ⟨R, 0, none⟩ = some u0 := ⟨_, hR0⟩
  clear hR hRs hRn hb4 hb04 hR0 hcc g2' hRne hA hN
  go_wp2_with fail
  go_loopw [48] (fun y wr => ∃ (j : Nat) (cu : Array Value), j ≤ cnt ∧ y = .int .i64 j ∧ wr.heap[R]? = some (.cells cu 21) ∧ cnt + 1 ≤ cu.size ∧ Hid (Bds S P j cu) ∧ Keeps R w wr) (fun y _ => cnt - (intOf y).toNat)
  case atStart => exact ⟨0, _, by omega, rfl, heap_setCell_same _ _ _ _ _ _ HR.out.1, by simp; exact HR.out.2, bds_zero (by have := HR.out.2; omega), HK4.out.setCell _⟩
  case round =>
    obtain ⟨j, cu, hj, rfl, hcu, hcs, hbd, hkp⟩ := hrel
    by_cases hlt : j < cnt
    · obtain ⟨bS, oS, eS, hcS⟩ := (hS.cut P cnt ns (by omega) (Nat.le_refl _)) j hlt
      have eS2 : ∃ b0 o0, aS = some ⟨b0, o0, none⟩ ∧ b0 = bS := by
        obtain ⟨b0, o0, e0, _⟩ := hS (P + j) (by omega)
        refine ⟨b0, o0, e0, ?_⟩
        unfold cutA at eS
        rw [e0] at eS
        split at eS
        · exfalso; omega
        · have ea : (Addr.mk b0 o0 none).add P = ⟨b0, o0 + P, none⟩ := by unfold Addr.add; split <;> simp_all
          simp [ea] at eS; exact eS.1
      obtain ⟨b0, o0, e0, rfl⟩ := eS2
      have hlS : b0 < w.heap.size := block_lt_of_cell hcS
      have hcS2 : wr.cell? ⟨b0, oS + j, none⟩ = some (.int .u8 (S (P + j))) := (hkp.cell hlS (HNE.out.2.2.1 b0 o0 e0 hlS)).trans hcS
      have hsb := hSb (P + j) (by omega)
      obtain ⟨hs1, hs2⟩ := hsb
      obtain ⟨T, hT⟩ : ∃ T, T = sum S (P + j) - sum S P := ⟨_, rfl⟩
      have hb1 := sum_bd hSb (P + j) (by omega)
      have hb2 := sum_mono hSb P j (by omega)
      have hb3 := sum_bd hSb P (by omega)
      have hT0 : 0 ≤ T := by omega
      have hT1 : T ≤ 16777216 := by omega
      have hcT : wr.cell? ⟨R, j, none⟩ = some (.int .i32 T) := by rw [cell_of_row _ _ _ _ _ _ hcu, hT]; exact hbd.out j (Nat.le_refl _)
      obtain ⟨v1, hv1⟩ : ∃ v1, wr.cell? ⟨R, j + 1, none⟩ = some v1 := ⟨cu[j + 1], by rw [cell_of_row _ _ _ _ _ _ hcu]; simp⟩
      have hfz := fun i => frozen_of_row wr R i cu 21 hcu
      have HT := hide hT
      have HW := hide (And.intro hcu (And.intro hcs hkp))
      have hji : (j : Int) < (cnt : Int) := by omega
      have hji2 : (j : Int) < (cnt : Int) + 1 := by omega
      have hji3 : (j : Int) + 1 < (cnt : Int) + 1 := by omega
      clear hcu hcs hkp hS hcS hb1 hb2 hb3 hT p0 p1 p2 p3 p4 p5 p6 g0 g1 g2 gf hcutS hPm hF
      rw [eS]
      go_wp2_with fail
      go_roundw
      case rel =>
        refine ⟨j + 1, _, by omega, by go_num, heap_setCell_same _ _ _ _ _ _ HW.out.1, by simp; exact HW.out.2.1, ?_, HW.out.2.2.setCell _⟩
        rw [HT.out]
        exact bds_step hbd.out (by have := HW.out.2.1; omega)
      case measure => simp [intOf]; omega
    · obtain rfl : j = cnt := by omega
      have hlp : Bp < w.heap.size := block_lt_of_cell p0
      have hlg : Bg < w.heap.size := block_lt_of_cell g2
      have q4 : wr.cell? ⟨Bp, 4, none⟩ = some (.slice aM nm nm) := (hkp.cell hlp (Ne.symm HNE.out.1)).trans p4
      have q6 : wr.cell? ⟨Bp, 6, none⟩ = some (.slice aF (G + 2) (G + 2)) := (hkp.cell hlp (Ne.symm HNE.out.1)).trans p6
      obtain ⟨bF, oF, eF, hc0⟩ := hF k (by omega)
      obtain ⟨bF', oF', eF', hc1⟩ := hF (k + 1) (by omega)
      rw [eF] at eF'
      simp only [Option.some.injEq, Addr.mk.injEq, and_true] at eF'
      obtain ⟨rfl, rfl⟩ := eF'
      have hlF : bF < w.heap.size := block_lt_of_cell hc0
      have f0 : wr.cell? ⟨bF, oF + k, none⟩ = some (.int .i64 lo) := by rw [hkp.cell hlF (HNE.out.2.2.2 bF oF eF hlF), hc0, HF0.out]
      have f1 : wr.cell? ⟨bF, oF + (k + 1), none⟩ = some (.int .i64 hi) := by rw [hkp.cell hlF (HNE.out.2.2.2 bF oF eF hlF), hc1, HF1.out]
      have hFg : bF ≠ Bg := hgF bF oF eF
      obtain ⟨v0, hv0⟩ := g0
      obtain ⟨v1, hv1⟩ := g1
      have y0 : wr.cell? ⟨Bg, 0, none⟩ = some v0 := (hkp.cell hlg (Ne.symm HNE.out.2.1)).trans hv0
      have y1 : wr.cell? ⟨Bg, 1, none⟩ = some v1 := (hkp.cell hlg (Ne.symm HNE.out.2.1)).trans hv1
      have y2 : wr.cell? ⟨Bg, 2, none⟩ = some (.slice aN nN nN) := (hkp.cell hlg (Ne.symm HNE.out.2.1)).trans g2
      have yf : ∀ o, wr.frozen? ⟨Bg, o, none⟩ = false := fun o => (hkp.frozen hlg (Ne.symm HNE.out.2.1)).trans (gf o)
      have hne1 : ¬ Bp = Bg := fun h => hgp h.symm
      have hne2 : ¬ Bg = Bp := hgp
      have hne3 : ¬ bF = Bg := hFg
      have hne4 : ¬ Bg = bF := fun h => hFg h.symm
      have hcutM := run_cut8 aM nm nm lo hi .i64 .i64 (lo : Int) (hi : Int) rfl rfl hlh hhn
      have HW := hide (And.intro hcu (And.intro hcs (And.intro hbd hkp)))
      have hki : (k : Int) < (G : Int) + 2 := by omega
      have hki2 : (k : Int) + 1 < (G : Int) + 2 := by omega
      have hki3 : (0 : Int) ≤ (k : Int) + 1 := by omega
      have hki4 : (0 : Int) ≤ (k : Int) := by omega
      subst eF
      clear hcu hcs hbd hkp hS hF p0 p1 p2 p3 p4 p5 p6 g2 gf hcutS hPm hv0 hv1 hc0 hc1 hgS hgF hFg hSb hGp HNS HC HPB HCB HF0 HF1 hu0 hRf HR HK4 hl3
      go_wp2_with fail
      go_region
      go_end0
      exact ⟨rfl, read_post HRN.out HW.out.1 HW.out.2.1 HW.out.2.2.1.out HW.out.2.2.2 y0 y1 y2 HNE.out.2.1⟩
end Go.Proofs.Qxb6617152a
