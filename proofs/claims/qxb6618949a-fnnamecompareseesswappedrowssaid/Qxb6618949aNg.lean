import Derived.Test.Qxb6618949aNf
import Derived.WalkKit
import Derived.WalkSpells
import Derived.WalkLawsBesides
import Derived.Deep.QuietTactic
import Derived.BigQuiet
import Derived.RegionTactic
import Derived.Deep.RegionHeld3
namespace Go.Proofs.Qxb6618949a
open Go.RowKit
set_option linter.unusedVariables false
def IsB (e : Ending) : Prop := ∃ v, e = .returned (.bool v)
theorem IsB.mk (v : Bool) : IsB (.returned (.bool v)) := ⟨v, rfl⟩
set_option maxHeartbeats 400000 in
theorem bytes_any (w0 i0 j0 k0 : Int) (a : Option Addr) (n c : Nat) (w : World) (h1 : n ≤ maxLen) :
    Calls Try.prog 15 #[.slice a n c, .int .i64 w0, .int .i64 i0, .int .i64 j0, .int .i64 k0] w fun e w' => IsB e ∧ w' = w := by
  unfold maxLen at *
  go_enter Try.func15, Try.ntmps15
  go_wp2_with fail
  all_goals (go_ret; exact ⟨.mk _, rfl⟩)
theorem Cloned.some {w w' : World} {n : Nat} {Z : Nat → Int} {e : Ending} (h : Cloned 5 .u8 w n Z e w') (hn : 0 < n) : ∃ B, e = .returned (.slice (some ⟨B, 0, none⟩) n n) ∧ Hid (Blk w' B n Z ∧ B = w.heap.size ∧ Below w.heap.size w w') := by
  obtain ⟨ad, rfl, hc, hb⟩ := h
  rcases hc with ⟨_, h0, _⟩ | ⟨rfl, cur, hcur, hs, hz⟩
  · omega
  · exact ⟨_, rfl, ⟨cur, hcur, hs, hz⟩, rfl, hb⟩
theorem Blk.lt {w : World} {B L : Nat} {V : Nat → Int} (h : Blk w B L V) : B < w.heap.size := by
  obtain ⟨cu, h1, _⟩ := h
  by_cases g : B < w.heap.size
  · exact g
  · rw [Array.getElem?_eq_none (by omega)] at h1; cases h1
theorem Blk.below {w w' : World} {B L P : Nat} {V : Nat → Int} (h : Blk w B L V) (hB : B < P) (hb : Below P w w') : Blk w' B L V := by
  obtain ⟨cu, h1, h2⟩ := h
  exact ⟨cu, (hb.block B hB).trans h1, h2⟩
theorem Blk.of_heap {w w' : World} {B L : Nat} {V : Nat → Int} (h : Blk w B L V) (e : w'.heap = w.heap) : Blk w' B L V := by
  obtain ⟨cu, h1, h2⟩ := h
  exact ⟨cu, by rw [e]; exact h1, h2⟩
theorem Blk.keeps {w w' : World} {B L P : Nat} {V : Nat → Int} (h : Blk w B L V) (hk : Keeps P w w') (hB : B < w.heap.size) (hne : B ≠ P) : Blk w' B L V := by
  obtain ⟨cu, h1, h2⟩ := h
  exact ⟨cu, (hk.2 B hB hne).trans h1, h2⟩
theorem Blk.byt {w : World} {B L : Nat} {V : Nat → Int} (h : Blk w B L V) (hb : ∀ x, x < L → 0 ≤ V x ∧ V x ≤ 255) : Byt w B L V := fun x hx => ⟨h.cell hx, (hb x hx).1, (hb x hx).2⟩
theorem Col.of_heap {w w' : World} {Bc Bb B wd n L : Nat} (h : Col w Bc Bb B wd n L) (e : w'.heap = w.heap) : Col w' Bc Bb B wd n L := by
  have hc : ∀ p, w'.cell? p = w.cell? p := fun p => by unfold World.cell?; rw [e]
  unfold Col at *
  rw [hc, hc, hc]; exact h
theorem Col.keeps {w w' : World} {Bc Bb B wd n L : Nat} (h : Col w Bc Bb B wd n L) (hk : Keeps B w w') (h1 : Bc < w.heap.size) (h2 : Bb < w.heap.size) (h3 : Bc ≠ B) (h4 : Bb ≠ B) : Col w' Bc Bb B wd n L :=
  ⟨(hk.cell h1 h3).trans h.1, (hk.cell h1 h3).trans h.2.1, (hk.cell h2 h4).trans h.2.2⟩
theorem rows_apart (i j wd : Nat) : i * wd = j * wd ∨ i * wd + wd ≤ j * wd ∨ j * wd + wd ≤ i * wd := by
  rcases Nat.lt_trichotomy i j with h | h | h
  · right; left; rw [← Nat.succ_mul]; exact Nat.mul_le_mul_right _ h
  · left; rw [h]
  · right; right; rw [← Nat.succ_mul]; exact Nat.mul_le_mul_right _ h
theorem sw_bounds {M : Nat → Int} {I J wd L : Nat} (h : ∀ x, x < L → 0 ≤ M x ∧ M x ≤ 255) (hI : I + wd ≤ L) (hJ : J + wd ≤ L) (x : Nat) (hx : x < L) : 0 ≤ Sw M I J wd x ∧ Sw M I J wd x ≤ 255 := by
  unfold Sw
  split
  · exact h _ (by omega)
  · split
    · exact h _ (by omega)
    · exact h x hx
theorem sw_src {V : Nat → Int} {i j x wd t : Nat} (ht : t < wd) : Sw V (i * wd) (j * wd) wd (x * wd + t) = V (src i j x * wd + t) := by
  have a1 := rows_apart x i wd
  have a2 := rows_apart x j wd
  unfold Sw src
  by_cases e : x = i
  · subst e
    rw [if_pos (by omega), if_pos rfl]; congr 1; omega
  · have n1 : ¬ (i * wd ≤ x * wd + t ∧ x * wd + t < i * wd + wd) := fun h => by
      rcases a1 with g | g | g
      · exact e (Nat.eq_of_mul_eq_mul_right (by omega) g)
      · omega
      · omega
    rw [if_neg n1, if_neg e]
    by_cases e2 : x = j
    · subst e2
      rw [if_pos (by omega), if_pos rfl]; congr 1; omega
    · have n2 : ¬ (j * wd ≤ x * wd + t ∧ x * wd + t < j * wd + wd) := fun h => by
        rcases a2 with g | g | g
        · exact e2 (Nat.eq_of_mul_eq_mul_right (by omega) g)
        · omega
        · omega
      rw [if_neg n2, if_neg e2]
set_option maxRecDepth 20000 in
set_option maxHeartbeats 3200000 in
theorem law (w0 i0 j0 k0 : Int) (a : Option Addr) (L c : Nat) (M : Nat → Int) (w : World) (hL0 : L ≤ maxLen) (hM : Row .u8 w a L M) (hMb : ∀ i, i < L → 0 ≤ M i ∧ M i ≤ 255) (hz : a = none → L = 0) :
    Calls Try.prog 5 #[.slice a L c, .int .i64 w0, .int .i64 i0, .int .i64 j0, .int .i64 k0] w fun e w' => e = .returned (.bool true) ∧ Below w.heap.size w w' := by
  have HZ := hide (And.intro hM (And.intro hMb hz))
  clear hM hMb hz
  go_enter Try.func5, Try.ntmps5
  go_wp2_with fail
  refine (bytes_any w0 i0 j0 k0 a L c w hL0).mono ?_
  rintro e w1 ⟨⟨v, rfl⟩, rfl⟩
  cases v
  · go_wp2; go_ret; exact ⟨rfl, Below.refl _ _⟩
  unfold maxLen at hL0
  by_cases hL : L ≤ 1048576
  rotate_left
  · have : (1048576 : Int) < (L : Int) := by omega
    go_wp2; go_ret; exact ⟨rfl, Below.refl _ _⟩
  clear hL0
  by_cases hw : w0 = 20 ∨ w0 = 32
  rotate_left
  · have e1 : (w0 != 20) = true := by rw [bne_iff_ne]; omega
    have e2 : (w0 != 32) = true := by rw [bne_iff_ne]; omega
    go_wp2; go_ret; exact ⟨rfl, Below.refl _ _⟩
  obtain ⟨wd, rfl, hwd0, hwd1⟩ : ∃ wd : Nat, w0 = wd ∧ 0 < wd ∧ wd ≤ 32 := ⟨w0.toNat, by omega, by omega, by omega⟩
  have hw' : (((wd : Int) != 20) = false ∧ True) ∨ (((wd : Int) != 20) = true ∧ ((wd : Int) != 32) = false) := by
    rcases hw with h | h
    · exact .inl ⟨by rw [h]; rfl, trivial⟩
    · exact .inr ⟨by rw [h]; rfl, by rw [h]; rfl⟩
  clear hw
  have hwi : ¬ (wd : Int) = 0 := by omega
  by_cases hr : L % wd = 0
  rotate_left
  · have e1 : ((L : Int) % (wd : Int) != 0) = true := by rw [bne_iff_ne]; omega
    rcases hw' with ⟨g1, g2⟩ | ⟨g1, g2⟩
    · go_wp2; go_ret; exact ⟨rfl, Below.refl _ _⟩
    · go_wp2; go_ret; exact ⟨rfl, Below.refl _ _⟩
  have e1 : ((L : Int) % (wd : Int) != 0) = false := by rw [bne_eq_false_iff_eq]; omega
  obtain ⟨n, hn⟩ : ∃ n : Nat, L = n * wd := ⟨L / wd, by have := Nat.div_add_mod L wd; rw [hr, Nat.mul_comm] at this; omega⟩
  have e2 : (L : Int) / (wd : Int) = (n : Int) := by
    rw [← Int.natCast_ediv, hn, Nat.mul_div_cancel _ hwd0]
  have hnL : n ≤ L := by rw [hn]; exact Nat.le_mul_of_pos_right _ hwd0
  have HN := hide hn
  clear hn hr
  by_cases hn2 : n ≤ 16384
  rotate_left
  · have : (16384 : Int) < (n : Int) := by omega
    rcases hw' with ⟨g1, g2⟩ | ⟨g1, g2⟩
    · go_wp2; go_ret; exact ⟨rfl, Below.refl _ _⟩
    · go_wp2; go_ret; exact ⟨rfl, Below.refl _ _⟩
  by_cases c1 : 0 ≤ i0 ∧ i0 < n
  rotate_left
  · by_cases d : 0 ≤ i0
    · have d2 : (n : Int) ≤ i0 := by omega
      rcases hw' with ⟨g1, g2⟩ | ⟨g1, g2⟩
      · go_wp2; go_ret; exact ⟨rfl, Below.refl _ _⟩
      · go_wp2; go_ret; exact ⟨rfl, Below.refl _ _⟩
    · have d2 : i0 < 0 := by omega
      rcases hw' with ⟨g1, g2⟩ | ⟨g1, g2⟩
      · go_wp2; go_ret; exact ⟨rfl, Below.refl _ _⟩
      · go_wp2; go_ret; exact ⟨rfl, Below.refl _ _⟩
  obtain ⟨i, rfl⟩ : ∃ i : Nat, i0 = i := ⟨i0.toNat, by omega⟩
  have hi : (i : Int) < (n : Int) := c1.2
  clear c1
  by_cases c1 : 0 ≤ j0 ∧ j0 < n
  rotate_left
  · by_cases d : 0 ≤ j0
    · have d2 : (n : Int) ≤ j0 := by omega
      rcases hw' with ⟨g1, g2⟩ | ⟨g1, g2⟩
      · go_wp2; go_ret; exact ⟨rfl, Below.refl _ _⟩
      · go_wp2; go_ret; exact ⟨rfl, Below.refl _ _⟩
    · have d2 : j0 < 0 := by omega
      rcases hw' with ⟨g1, g2⟩ | ⟨g1, g2⟩
      · go_wp2; go_ret; exact ⟨rfl, Below.refl _ _⟩
      · go_wp2; go_ret; exact ⟨rfl, Below.refl _ _⟩
  obtain ⟨j, rfl⟩ : ∃ j : Nat, j0 = j := ⟨j0.toNat, by omega⟩
  have hj : (j : Int) < (n : Int) := c1.2
  clear c1
  by_cases c1 : 0 ≤ k0 ∧ k0 < n
  rotate_left
  · by_cases d : 0 ≤ k0
    · have d2 : (n : Int) ≤ k0 := by omega
      rcases hw' with ⟨g1, g2⟩ | ⟨g1, g2⟩
      · go_wp2; go_ret; exact ⟨rfl, Below.refl _ _⟩
      · go_wp2; go_ret; exact ⟨rfl, Below.refl _ _⟩
    · have d2 : k0 < 0 := by omega
      rcases hw' with ⟨g1, g2⟩ | ⟨g1, g2⟩
      · go_wp2; go_ret; exact ⟨rfl, Below.refl _ _⟩
      · go_wp2; go_ret; exact ⟨rfl, Below.refl _ _⟩
  obtain ⟨k, rfl⟩ : ∃ k : Nat, k0 = k := ⟨k0.toNat, by omega⟩
  have hk : (k : Int) < (n : Int) := c1.2
  clear c1
  -- the rows
  have hi' : i < n := by omega
  have hj' : j < n := by omega
  have hk' : k < n := by omega
  have hLw : ∀ x, x < n → x * wd + wd ≤ L := fun x hx => by
    rw [HN.out, ← Nat.succ_mul]; exact Nat.mul_le_mul_right _ hx
  have hiL := hLw i hi'
  have hjL := hLw j hj'
  have hkL := hLw k hk'
  have hL1 : 0 < L := by omega
  have hsi : src i j i = j := by unfold src; rw [if_pos rfl]
  have hsj : src i j j < n := by unfold src; split <;> (try split) <;> omega
  have hsk : src i j k < n := by unfold src; split <;> (try split) <;> omega
  have HLw := hide hLw
  have HS := hide (And.intro hsi (And.intro hsj hsk))
  obtain ⟨I, hI⟩ : ∃ I, I = i * wd := ⟨_, rfl⟩
  obtain ⟨J, hJ⟩ : ∃ J, J = j * wd := ⟨_, rfl⟩
  have mI : (i : Int) * (wd : Int) = (I : Int) := by rw [hI]; simp
  have mJ : (j : Int) * (wd : Int) = (J : Int) := by rw [hJ]; simp
  have mI1 : ((i : Int) + 1) * (wd : Int) = (I : Int) + (wd : Int) := by rw [Int.add_mul, mI, Int.one_mul]
  have mJ1 : ((j : Int) + 1) * (wd : Int) = (J : Int) + (wd : Int) := by rw [Int.add_mul, mJ, Int.one_mul]
  have bI : I + wd ≤ L := by omega
  have bJ : J + wd ≤ L := by omega
  have HIJ := hide (And.intro hI hJ)
  clear hI hJ hsi hsj hsk hLw
  rcases hw' with ⟨g1, g2⟩ | ⟨g1, g2⟩
  all_goals (
    go_wp2_with fail
    refine (clone8_any a L c M w1 hL HZ.out.1 HZ.out.2.2).mono ?_
    intro e w2 he
    obtain ⟨B1, rfl, o1⟩ := he.some hL1
    clear he
    go_wp2_with fail
    refine (clone8_any a L c M w2 hL (HZ.out.1.below o1.out.2.2) HZ.out.2.2).mono ?_
    intro e w3 he
    obtain ⟨B2, rfl, o2⟩ := he.some hL1
    clear he
    go_wp2_with fail
    refine (newcol_any B2 wd n L w3).mono ?_
    intro e w4 he
    obtain ⟨Bc, Bb, rfl, hcol, x1, x2, x3, x4, x5⟩ := he
    have F4 : Hid (Blk w4 B1 L M ∧ Blk w4 B2 L M ∧ Col w4 Bc Bb B2 wd n L ∧ B1 ≠ B2 ∧ Bc ≠ B2 ∧ Bb ≠ B2 ∧ B1 < w4.heap.size ∧ Bc < w4.heap.size ∧ Bb < w4.heap.size ∧ w1.heap.size ≤ B2 ∧ Below w1.heap.size w1 w4) := by
      have s1 := o1.out.2.2.size
      have s2 := o2.out.2.2.size
      have s3 := x5.size
      have l1 := o1.out.1.lt
      have l2 := o2.out.1.lt
      have e1 := o1.out.2.1
      have e2 := o2.out.2.1
      exact ⟨(o1.out.1.below l1 o2.out.2.2).below (by omega) x5, o2.out.1.below l2 x5, hcol, by omega, by omega, by omega, by omega, by omega, by omega, by omega, (o1.out.2.2.trans (o2.out.2.2.mono s1)).trans (x5.mono (by omega))⟩
    clear hcol x1 x2 x3 x4 x5 o1 o2
    go_wp2_with fail
    refine (zcompare_any Bc Bb B2 wd n L i j M w4 hwd0 hwd1 (by omega) hiL (by omega) hjL hL F4.out.2.2.1 (F4.out.2.1.byt HZ.out.2.1)).mono ?_
    rintro e w5 ⟨rfl, m5, rfl⟩
    generalize hv1 : lexF _ _ wd = v1
    have V1 := hide hv1
    clear hv1
    go_wp2_with fail
    generalize hW5 : World.drewN w4 _ = w5
    have F5 : Hid (w5.heap = w4.heap ∧ Below w4.heap.size w4 w5) := by subst hW5; exact ⟨rfl, ⟨rfl, rfl, rfl, Nat.le_refl _, fun _ _ => rfl⟩⟩
    clear hW5
    refine (zswap_any Bc Bb B2 wd n L i j M w5 hwd0 hwd1 (by omega) hiL (by omega) hjL hL (F4.out.2.2.1.of_heap F5.out.1) (F4.out.2.1.of_heap F5.out.1) (rows_apart i j wd)).mono ?_
    rintro e w6 ⟨rfl, hb6, hk6⟩
    have F6 : Hid (Blk w6 B1 L M ∧ Blk w6 B2 L (Sw M (i * wd) (j * wd) wd) ∧ Col w6 Bc Bb B2 wd n L ∧ Below w1.heap.size w1 w6) := by
      have hz : w5.heap.size = w4.heap.size := by rw [F5.out.1]
      have f := F4.out
      refine ⟨(f.1.of_heap F5.out.1).keeps hk6 (by omega) f.2.2.2.1, hb6, (f.2.2.1.of_heap F5.out.1).keeps hk6 (by omega) (by omega) f.2.2.2.2.1 f.2.2.2.2.2.1, ?_⟩
      have b5 := f.2.2.2.2.2.2.2.2.2.2.trans (F5.out.2.mono f.2.2.2.2.2.2.2.2.2.2.size)
      have b0 := (b5.mono (Nat.zero_le _)).trans hk6.1
      exact ⟨b0.os, b0.tape, b0.output, b0.size, fun b hb => (hk6.2 b (by have := b5.size; omega) (by have := f.2.2.2.2.2.2.2.2.2.1; omega)).trans (b5.block b hb)⟩
    clear hb6 hk6 F4 F5
    have SB : Hid (∀ x, x < L → 0 ≤ Sw M (i * wd) (j * wd) wd x ∧ Sw M (i * wd) (j * wd) wd x ≤ 255) := sw_bounds HZ.out.2.1 hiL hjL
    go_wp2_with fail
    refine (zcompare_any Bc Bb B2 wd n L i j _ w6 hwd0 hwd1 (by omega) hiL (by omega) hjL hL F6.out.2.2.1 (F6.out.2.1.byt SB.out)).mono ?_
    rintro e w7 ⟨rfl, m7, rfl⟩
    generalize hv2 : lexF _ _ wd = v2
    have V2 := hide hv2
    clear hv2
    go_wp2_with fail
    generalize hW7 : World.drewN w6 _ = w7
    have F7 : Hid (w7.heap = w6.heap ∧ Below w6.heap.size w6 w7) := by subst hW7; exact ⟨rfl, ⟨rfl, rfl, rfl, Nat.le_refl _, fun _ _ => rfl⟩⟩
    clear hW7
    refine (zcompare_any Bc Bb B2 wd n L i k _ w7 hwd0 hwd1 (by omega) hiL (by omega) hkL hL (F6.out.2.2.1.of_heap F7.out.1) ((F6.out.2.1.of_heap F7.out.1).byt SB.out)).mono ?_
    rintro e w8 ⟨rfl, m8, rfl⟩
    generalize hv3 : lexF _ _ wd = v3
    have V3 := hide hv3
    clear hv3
    generalize hW8 : World.drewN w7 _ = w8
    have F8 : Hid (w8.heap = w6.heap ∧ Below w6.heap.size w6 w8) := by subst hW8; exact ⟨F7.out.1, ⟨F7.out.2.os, F7.out.2.tape, F7.out.2.output, F7.out.2.size, F7.out.2.block⟩⟩
    clear hW8 F7
    have CL : Hid (∀ W : World, W.heap = w6.heap → ∀ p q cp cq, p + wd ≤ L → q + wd ≤ L → Calls Try.prog 12 #[.slice (some ⟨B1, p, none⟩) wd cp, .slice (some ⟨B1, q, none⟩) wd cq] W fun e w' => e = .returned (.int .i64 (lexF (fun t => M (p + t)) (fun t => M (q + t)) wd)) ∧ ∃ m, w' = W.drewN m) := fun W hW p q cp cq hp hq => by
      have hb := F6.out.1.of_heap hW
      refine (lex_any _ _ wd cp cq (fun t => M (p + t)) (fun t => M (q + t)) W (by omega) (fun t ht => ⟨B1, p, rfl, hb.cell (by omega)⟩) (fun t ht => ⟨B1, q, rfl, hb.cell (by omega)⟩)).mono ?_
      rintro e w' ⟨h, hm⟩
      exact ⟨h.eq, hm⟩
    have cI := run_cut B1 0 L L I (I + wd) .i64 .i64 (I : Int) ((I : Int) + (wd : Int)) rfl (by omega) (by omega) (by omega) (by omega)
    rw [Nat.add_sub_cancel_left, Nat.zero_add] at cI
    have cJ := run_cut B1 0 L L J (J + wd) .i64 .i64 (J : Int) ((J : Int) + (wd : Int)) rfl (by omega) (by omega) (by omega) (by omega)
    rw [Nat.add_sub_cancel_left, Nat.zero_add] at cJ
    have C23 : Hid (∀ m, Calls Try.prog 12 #[.slice (some ⟨B1, I, none⟩) wd (L - I), .slice (some ⟨B1, J, none⟩) wd (L - J)] (w8.drewN m) fun e w' => e = .returned (.int .i64 v1) ∧ ∃ m', w' = (w8.drewN m).drewN m') := fun m => by
      have h := CL.out (w8.drewN m) F8.out.1 I J (L - I) (L - J) bI bJ
      rw [HIJ.out.1, HIJ.out.2, V1.out] at h
      rw [HIJ.out.1, HIJ.out.2]; exact h
    go_wp2_with fail
    go_quiet ((go_at_call 12; exact Calls.quiet_of (C23.out _)))
    have E2 : Hid (lexF (fun t => M (src i j i * wd + t)) (fun t => M (src i j j * wd + t)) wd = v2) := (lexF_congr (fun t ht => (sw_src ht).symm) (fun t ht => (sw_src ht).symm)).trans V2.out
    have E3 : Hid (lexF (fun t => M (src i j i * wd + t)) (fun t => M (src i j k * wd + t)) wd = v3) := (lexF_congr (fun t ht => (sw_src ht).symm) (fun t ht => (sw_src ht).symm)).trans V3.out
    obtain ⟨PI, hPI⟩ : ∃ P, P = src i j i * wd := ⟨_, rfl⟩
    obtain ⟨PJ, hPJ⟩ : ∃ P, P = src i j j * wd := ⟨_, rfl⟩
    obtain ⟨PK, hPK⟩ : ∃ P, P = src i j k * wd := ⟨_, rfl⟩
    have bPI : PI + wd ≤ L := by rw [hPI, HS.out.1]; exact hjL
    have bPJ : PJ + wd ≤ L := by rw [hPJ]; exact HLw.out _ HS.out.2.1
    have bPK : PK + wd ≤ L := by rw [hPK]; exact HLw.out _ HS.out.2.2
    have A1 := hide (fun W : World => after_any B1 L wd i j i PI W hwd0 hwd1 (by omega) (by omega) (by omega) hPI bPI hL)
    have A2 := hide (fun W : World => after_any B1 L wd i j j PJ W hwd0 hwd1 (by omega) (by omega) (by omega) hPJ bPJ hL)
    have A3 := hide (fun W : World => after_any B1 L wd i j k PK W hwd0 hwd1 (by omega) (by omega) (by omega) hPK bPK hL)
    rw [← hPI, ← hPJ] at E2
    rw [← hPI, ← hPK] at E3
    clear hPI hPJ hPK mI mJ mI1 mJ1 cI cJ C23
    generalize hW9 : World.drewN w8 _ = w9
    have F9 : Hid (w9.heap = w6.heap ∧ Below w6.heap.size w6 w9) := by subst hW9; exact ⟨F8.out.1, ⟨F8.out.2.os, F8.out.2.tape, F8.out.2.output, F8.out.2.size, F8.out.2.block⟩⟩
    clear hW9 F8
    go_wp2_with fail
    refine (A1.out _).mono ?_
    rintro e x1 ⟨rfl, rfl⟩
    go_wp2_with fail
    refine (A2.out _).mono ?_
    rintro e x2 ⟨rfl, rfl⟩
    go_wp2_with fail
    refine (CL.out _ F9.out.1 PI PJ _ _ bPI bPJ).mono ?_
    rintro e x3 ⟨rfl, m3, rfl⟩
    rw [E2.out]
    go_wp2_with fail
    refine (A1.out _).mono ?_
    rintro e x4 ⟨rfl, rfl⟩
    go_wp2_with fail
    refine (A3.out _).mono ?_
    rintro e x5 ⟨rfl, rfl⟩
    go_wp2_with fail
    refine (CL.out (World.drewN _ m3) (by exact F9.out.1) PI PK _ _ bPI bPK).mono ?_
    rintro e x6 ⟨rfl, m6, rfl⟩
    rw [E3.out]
    go_wp2_with fail
    go_ret
    refine ⟨?_, ?_⟩
    · simp
    · have h := F6.out.2.2.2.trans (F9.out.2.mono F6.out.2.2.2.size)
      exact ⟨h.os, h.tape, h.output, h.size, h.block⟩)
end Go.Proofs.Qxb6618949a
