import Derived.Test.Qxb6618949aNe
import Derived.WalkKit
import Derived.WalkSpells
import Derived.WalkLawsBesides
import Derived.Deep.QuietTactic
import Derived.BigQuiet
import Derived.RegionTactic
import Derived.Deep.RegionHeld3
import Derived.BigRegion
namespace Go.Proofs.Qxb6618949a
open Go.RowKit
set_option linter.unusedVariables false
def Keeps (P : Nat) (w w' : World) : Prop := Below 0 w w' ∧ ∀ k, k < w.heap.size → k ≠ P → w'.heap[k]? = w.heap[k]?
theorem Keeps.cell {P : Nat} {w w' : World} (h : Keeps P w w') {p : Addr} (hp : p.block < w.heap.size) (hne : p.block ≠ P) : w'.cell? p = w.cell? p := World.cell?_of_block (w := w) (h.2 p.block hp hne)
theorem Keeps.setCell {P i : Nat} {w w' : World} (h : Keeps P w w') (v : Value) : Keeps P w (w'.setCell ⟨P, i, none⟩ v) :=
  ⟨⟨h.1.os, h.1.tape, h.1.output, by simp [World.setCell]; exact h.1.size, fun k hk => by omega⟩, fun k hk hne => by rw [heap_setCell_other _ _ _ _ hne]; exact h.2 k hk hne⟩
theorem Keeps.drewN {P n : Nat} {w w' : World} (h : Keeps P w w') : Keeps P w (w'.drewN n) := ⟨⟨h.1.os, h.1.tape, h.1.output, h.1.size, h.1.block⟩, h.2⟩
theorem Keeps.drew {P : Nat} {w w' : World} (h : Keeps P w w') : Keeps P w w'.drew := ⟨⟨h.1.os, h.1.tape, h.1.output, h.1.size, h.1.block⟩, h.2⟩
theorem Keeps.refl (P : Nat) (w : World) : Keeps P w w := ⟨Below.refl _ _, fun _ _ _ => rfl⟩
/-- The bytes in their own block. -/
def Blk (w : World) (B L : Nat) (V : Nat → Int) : Prop := ∃ cu, w.heap[B]? = some (.cells cu 5) ∧ cu.size = L ∧ ∀ x, x < L → cu[x]? = some (.int .u8 (V x))
theorem Blk.cell {w : World} {B L : Nat} {V : Nat → Int} (h : Blk w B L V) {x : Nat} (hx : x < L) : w.cell? ⟨B, x, none⟩ = some (.int .u8 (V x)) := by
  obtain ⟨cu, h1, h2, h3⟩ := h
  rw [cell_of_row _ _ _ _ _ _ h1]; exact h3 x hx
theorem Blk.frozen {w : World} {B L : Nat} {V : Nat → Int} (h : Blk w B L V) (x : Nat) : w.frozen? ⟨B, x, none⟩ = false := by
  obtain ⟨cu, h1, h2, h3⟩ := h
  exact frozen_of_row w B x cu 5 h1
theorem Blk.congr {w : World} {B L : Nat} {V V' : Nat → Int} (h : Blk w B L V) (e : ∀ x, x < L → V x = V' x) : Blk w B L V' := by
  obtain ⟨cu, h1, h2, h3⟩ := h
  exact ⟨cu, h1, h2, fun x hx => by rw [← e x hx]; exact h3 x hx⟩
theorem Blk.set {w : World} {B L : Nat} {V : Nat → Int} (h : Blk w B L V) {o : Nat} (ho : o < L) (v : Int) : Blk (w.setCell ⟨B, o, none⟩ (.int .u8 v)) B L (fun x => if x = o then v else V x) := by
  obtain ⟨cu, h1, h2, h3⟩ := h
  refine ⟨_, heap_setCell_same _ _ _ _ _ _ h1, by simp; exact h2, fun x hx => ?_⟩
  by_cases e : x = o
  · subst e
    rw [Array.getElem?_setIfInBounds_self_of_lt (by omega)]; simp
  · rw [Array.getElem?_setIfInBounds_ne (by omega)]; simp only [if_neg e]; exact h3 x hx
/-- The bytes after t bytes of the rows at I and J are swapped. -/
def Sw (V : Nat → Int) (I J t x : Nat) : Int := if I ≤ x ∧ x < I + t then V (x - I + J) else if J ≤ x ∧ x < J + t then V (x - J + I) else V x
theorem sw_zero (V : Nat → Int) (I J x : Nat) : Sw V I J 0 x = V x := by
  unfold Sw; rw [if_neg (by omega), if_neg (by omega)]
theorem sw_at {V : Nat → Int} {I J t wd : Nat} (h : I = J ∨ I + wd ≤ J ∨ J + wd ≤ I) (ht : t < wd) : Sw V I J t (I + t) = V (I + t) ∧ Sw V I J t (J + t) = V (J + t) := by
  unfold Sw
  constructor
  · rw [if_neg (by omega), if_neg (by omega)]
  · rw [if_neg (by omega), if_neg (by omega)]
theorem sw_step {V : Nat → Int} {I J t wd : Nat} (h : I = J ∨ I + wd ≤ J ∨ J + wd ≤ I) (ht : t < wd) (x : Nat) :
    (if x = J + t then V (I + t) else if x = I + t then V (J + t) else Sw V I J t x) = Sw V I J (t + 1) x := by
  unfold Sw
  by_cases h1 : x = J + t
  · subst h1
    rw [if_pos rfl]
    by_cases e : I = J
    · subst e; rw [if_pos (by omega)]; congr 1; omega
    · rw [if_neg (by omega), if_pos (by omega)]; congr 1; omega
  · rw [if_neg h1]
    by_cases h2 : x = I + t
    · subst h2
      rw [if_pos rfl, if_pos (by omega)]; congr 1; omega
    · rw [if_neg h2]
      by_cases h3 : I ≤ x ∧ x < I + t
      · rw [if_pos h3, if_pos (by omega)]
      · rw [if_neg h3, if_neg (show ¬ (I ≤ x ∧ x < I + (t + 1)) by omega)]
        by_cases h4 : J ≤ x ∧ x < J + t
        · rw [if_pos h4, if_pos (show J ≤ x ∧ x < J + (t + 1) by omega)]
        · rw [if_neg h4, if_neg (show ¬ (J ≤ x ∧ x < J + (t + 1)) by omega)]
theorem sw_step' {V : Nat → Int} {I J t wd : Nat} (h : I = J ∨ I + wd ≤ J ∨ J + wd ≤ I) (ht : t < wd) (x : Nat) :
    (if x = I + t then V (J + t) else if x = J + t then V (I + t) else Sw V I J t x) = Sw V I J (t + 1) x := by
  rw [← sw_step h ht x]
  by_cases h1 : x = I + t
  · by_cases h2 : x = J + t
    · have e : I = J := by omega
      subst e; rfl
    · rw [if_pos h1, if_neg h2, if_pos h1]
  · rw [if_neg h1]
    by_cases h2 : x = J + t
    · rw [if_pos h2, if_pos h2]
    · rw [if_neg h2, if_neg h2, if_neg h1]
set_option maxHeartbeats 1600000 in
theorem swap_any (Bc Bb B wd n L i j : Nat) (V : Nat → Int) (w : World) (hw0 : 0 < wd) (hw : wd ≤ 32) (hi : i < 16384) (hIL : i * wd + wd ≤ L) (hj : j < 16384) (hJL : j * wd + wd ≤ L) (hL : L ≤ 1048576) (h : Col w Bc Bb B wd n L) (hV : Blk w B L V)
    (hIJ : i * wd = j * wd ∨ i * wd + wd ≤ j * wd ∨ j * wd + wd ≤ i * wd) :
    Calls Try.prog 26 #[.pointer (some ⟨Bc, 0, none⟩), .int .i64 i, .int .i64 j] w fun e w' => e = .returned (.tuple #[]) ∧ Blk w' B L (Sw V (i * wd) (j * wd) wd) ∧ Keeps B w w' := by
  have CR : Hid (∀ m x, x < 16384 → x * wd + wd ≤ L → Calls Try.prog 34 #[.pointer (some ⟨Bc, 0, none⟩), .int .i64 (x : Nat)] (w.drewN m) fun e w' => e = .returned (.slice (some ⟨B, x * wd, none⟩) wd wd) ∧ ∃ m', w' = (w.drewN m).drewN m') := fun m x e2 e3 => row_any Bc Bb B wd n L x _ _ hw0 hw e2 rfl e3 hL h
  have HB := hide hV
  clear h hV
  go_enter Try.func26, Try.ntmps26
  go_wp2_with fail
  go_quiet (first | (go_at_call 34; exact Calls.quiet_of (CR.out _ _ (by assumption) (by assumption))))
  go_wp2_with fail
  clear CR
  generalize hI : i * wd = I at *
  generalize hJ : j * wd = J at *
  have HE := hide (And.intro hI hJ)
  clear hI hJ
  have HIJ := hide hIJ
  clear hIJ
  go_loopw [21] (fun y wr => ∃ (t : Nat), t ≤ wd ∧ y = .int .i64 t ∧ Hid (Blk wr B L (Sw V I J t)) ∧ Hid (Keeps B w wr)) (fun y _ => wd - (intOf y).toNat)
  case atStart => exact ⟨0, by omega, rfl, HB.out.congr (fun x _ => (sw_zero V I J x).symm), (Keeps.refl B w).drewN⟩
  case round =>
    obtain ⟨t, ht, rfl, hb, hk⟩ := hrel
    by_cases hlt : t < wd
    · have c1 := hb.out.cell (x := I + t) (by omega)
      have c2 := hb.out.cell (x := J + t) (by omega)
      rw [(sw_at HIJ.out hlt).1] at c1
      rw [(sw_at HIJ.out hlt).2] at c2
      have hf := hb.out.frozen
      have t1 : (t : Int) < (wd : Int) := by omega
      have hu : ∃ u, (wr.setCell ⟨B, I + t, none⟩ (.int .u8 (V (J + t)))).cell? ⟨B, J + t, none⟩ = some u := ⟨_, (hb.out.set (o := I + t) (by omega) (V (J + t))).cell (x := J + t) (by omega)⟩
      have hu2 : ∃ u, (wr.setCell ⟨B, J + t, none⟩ (.int .u8 (V (I + t)))).cell? ⟨B, I + t, none⟩ = some u := ⟨_, (hb.out.set (o := J + t) (by omega) (V (I + t))).cell (x := I + t) (by omega)⟩
      obtain ⟨u, hu⟩ := hu
      obtain ⟨u2, hu2⟩ := hu2
      go_wp2_with fail
      go_region
      go_wp2_with fail
      go_roundw
      case rel =>
        have hb2 := ((hb.out.set (o := I + t) (by omega) (V (J + t))).set (o := J + t) (by omega) (V (I + t))).congr (fun x _ => sw_step HIJ.out hlt x)
        exact ⟨t + 1, by omega, by go_num, hb2, ((hk.out.setCell _).setCell _).drew⟩
      case measure => simp [intOf]; omega
    · obtain rfl : wd = t := by omega
      go_wp2
      go_end0
      exact ⟨rfl, by rw [HE.out.1, HE.out.2]; exact hb.out, hk.out⟩
set_option maxHeartbeats 400000 in
theorem zswap_any (Bc Bb B wd n L i j : Nat) (V : Nat → Int) (w : World) (hw0 : 0 < wd) (hw : wd ≤ 32) (hi : i < 16384) (hIL : i * wd + wd ≤ L) (hj : j < 16384) (hJL : j * wd + wd ≤ L) (hL : L ≤ 1048576) (h : Col w Bc Bb B wd n L) (hV : Blk w B L V)
    (hIJ : i * wd = j * wd ∨ i * wd + wd ≤ j * wd ∨ j * wd + wd ≤ i * wd) :
    Calls Try.prog 19 #[.pointer (some ⟨Bc, 0, none⟩), .int .i64 i, .int .i64 j] w fun e w' => e = .returned (.tuple #[]) ∧ Blk w' B L (Sw V (i * wd) (j * wd) wd) ∧ Keeps B w w' := by
  have C := hide (swap_any Bc Bb B wd n L i j V w hw0 hw hi hIL hj hJL hL h hV hIJ)
  clear h hV hIJ
  go_enter Try.func19, Try.ntmps19
  go_wp2_with fail
  refine C.out.mono ?_
  rintro e w1 ⟨rfl, h1, h2⟩
  have H := hide (And.intro h1 h2)
  clear h1 h2
  go_wp2_with fail
  go_end0
  exact ⟨rfl, H.out.1, H.out.2⟩
theorem two_alloc (w : World) (a b : Obj) : ((w.alloc a).alloc b).heap.size = w.heap.size + 2 ∧ Below w.heap.size w ((w.alloc a).alloc b) ∧ ((w.alloc a).alloc b).heap[w.heap.size]? = some a ∧ ((w.alloc a).alloc b).heap[w.heap.size + 1]? = some b := by
  have e1 : ((w.alloc a).alloc b).heap.size = w.heap.size + 2 := by show ((w.heap.push a).push b).size = _; rw [Array.size_push, Array.size_push]
  have e2 : (w.alloc a).heap.size = w.heap.size + 1 := by show (w.heap.push a).size = _; rw [Array.size_push]
  refine ⟨e1, ((Below.refl _ _).alloc (Nat.le_refl _) _).alloc (by omega) _, ?_, ?_⟩
  · show ((w.heap.push a).push b)[w.heap.size]? = _
    rw [Array.getElem?_push, if_neg (by simp), Array.getElem?_push_size]
  · show ((w.heap.push a).push b)[w.heap.size + 1]? = _
    rw [Array.getElem?_push, if_pos (by simp)]
/-- What ZZnewNameColumn lays. -/
def NewCol (w : World) (B wd n L : Nat) (e : Ending) (w' : World) : Prop := ∃ Bc Bb, e = .returned (.pointer (some ⟨Bc, 0, none⟩)) ∧ Col w' Bc Bb B wd n L ∧ w.heap.size ≤ Bc ∧ w.heap.size ≤ Bb ∧ Bc < w'.heap.size ∧ Bb < w'.heap.size ∧ Below w.heap.size w w'
set_option maxHeartbeats 400000 in
theorem newcol_any (B wd n L : Nat) (w : World) : Calls Try.prog 17 #[.slice (some ⟨B, 0, none⟩) L L, .int .i64 wd, .int .i64 n] w fun e w' => NewCol w B wd n L e w' := by
  go_enter Try.func17, Try.ntmps17
  go_wp2_with fail
  obtain ⟨hsz, hbl, hb0, hb1⟩ := two_alloc w (.cells #[.slice (some ⟨B, 0, none⟩) L L] 25) (.cells #[.int .i64 wd, .int .i64 n, .int .i64 n, .slice (some ⟨w.heap.size, 0, none⟩) 1 1] 55)
  have h0 := fun o => cell_of_row _ w.heap.size o _ _ _ hb0
  have h1 := fun o => cell_of_row _ (w.heap.size + 1) o _ _ _ hb1
  have H : Hid (NewCol w B wd n L (.returned (.pointer (some ⟨w.heap.size + 1, 0, none⟩))) ((w.alloc (.cells #[.slice (some ⟨B, 0, none⟩) L L] 25)).alloc (.cells #[.int .i64 wd, .int .i64 n, .int .i64 n, .slice (some ⟨w.heap.size, 0, none⟩) 1 1] 55))) :=
    ⟨w.heap.size + 1, w.heap.size, rfl, ⟨h1 0, h1 3, h0 0⟩, by omega, by omega, by omega, by omega, hbl⟩
  clear h0 h1 hsz hbl hb0 hb1
  go_ret
  exact H.out
/-- Which row of the old names row x holds after the swap. -/
def src (i j x : Nat) : Nat := if x = i then j else if x = j then i else x
set_option maxHeartbeats 400000 in
theorem after_any (B L wd i j x P : Nat) (w : World) (hw0 : 0 < wd) (hw : wd ≤ 32) (hi : i < 16384) (hj : j < 16384) (hx : x < 16384) (hP : P = src i j x * wd) (hPL : P + wd ≤ L) (hL : L ≤ 1048576) :
    Calls Try.prog 20 #[.slice (some ⟨B, 0, none⟩) L L, .int .i64 wd, .int .i64 i, .int .i64 j, .int .i64 x] w fun e w' => e = .returned (.slice (some ⟨B, P, none⟩) wd (L - P)) ∧ w' = w := by
  have hc := run_cut B 0 L L P (P + wd) .i64 .i64 (P : Int) ((P : Int) + (wd : Int)) rfl (by omega) (by omega) (by omega) (by omega)
  rw [Nat.add_sub_cancel_left, Nat.zero_add] at hc
  have hm : ((src i j x : Nat) : Int) * (wd : Int) = (P : Int) := by rw [hP]; simp
  have hm2 : (((src i j x : Nat) : Int) + 1) * (wd : Int) = (P : Int) + (wd : Int) := by rw [Int.add_mul, hm, Int.one_mul]
  clear hP
  by_cases e1 : x = i
  · have es : src i j x = j := by unfold src; rw [if_pos e1]
    rw [es] at hm hm2
    subst e1
    go_enter Try.func20, Try.ntmps20
    go_wp2_with fail
    go_ret
    exact ⟨rfl, rfl⟩
  · have f1 : ((x : Int) == (i : Int)) = false := by rw [beq_eq_false_iff_ne]; omega
    by_cases e2 : x = j
    · have es : src i j x = i := by unfold src; rw [if_neg e1, if_pos e2]
      rw [es] at hm hm2
      subst e2
      go_enter Try.func20, Try.ntmps20
      go_wp2_with fail
      go_ret
      exact ⟨rfl, rfl⟩
    · have es : src i j x = x := by unfold src; rw [if_neg e1, if_neg e2]
      rw [es] at hm hm2
      have f2 : ((x : Int) == (j : Int)) = false := by rw [beq_eq_false_iff_ne]; omega
      go_enter Try.func20, Try.ntmps20
      go_wp2_with fail
      go_ret
      exact ⟨rfl, rfl⟩
end Go.Proofs.Qxb6618949a
