import Derived.Test.Qxb6617152aSmall
import Derived.WalkKit
import Derived.WalkSpells
import Derived.WalkLawsBesides
import Derived.Deep.QuietTactic
import Derived.BigQuiet
import Derived.RegionTactic
import Derived.Deep.RegionHeld3
namespace Go.Proofs.Qxb6617152a
open Go.RowKit
set_option linter.unusedVariables false
theorem ret_two {a b c d : Int} (h1 : a = c) (h2 : b = d) : Ending.returned (.tuple #[.int .i64 a, .int .i64 b]) = .returned (.tuple #[.int .i64 c, .int .i64 d]) := by rw [h1, h2]
set_option maxHeartbeats 400000 in
theorem devicesOf_any (B : Nat) (D : Int) (G k : Nat) (w : World) (hk : k ≤ G) (hG : G ≤ 65536) (hD1 : 256 * (G : Int) < D) (hD2 : D ≤ 256 * (G : Int) + 256) (h0 : w.cell? ⟨B, 0, none⟩ = some (.int .i64 D)) :
    Calls Try.prog 31 #[.pointer (some ⟨B, 0, none⟩), .int .i64 k] w fun e w' => e = .returned (.tuple #[.int .i64 ((k : Int) * 256), .int .i64 (dvs D G k)]) ∧ ∃ m, w' = w.drewN m := by
  by_cases e : k = G
  · subst e
    go_enter Try.func31, Try.ntmps31
    go_wp2_with fail
    go_region
    all_goals go_wp2_with fail
    all_goals go_ret2
    all_goals exact ⟨ret_two rfl (by unfold dvs; rw [if_pos rfl]; omega), 1, rfl⟩
  · go_enter Try.func31, Try.ntmps31
    go_wp2_with fail
    go_region
    all_goals go_wp2_with fail
    all_goals go_ret2
    all_goals exact ⟨ret_two rfl (by have h9 : dvs D G k = 256 := if_neg e; omega), 1, rfl⟩
set_option maxHeartbeats 400000 in
theorem namespacesOf_any (B : Nat) (G pg ns k : Nat) (w : World) (hk : k ≤ G) (hG : G ≤ 65536) (hns : ns ≤ 65536) (hpg : 1 ≤ pg) (hGp : G * pg ≤ ns)
    (h1 : w.cell? ⟨B, 1, none⟩ = some (.int .i64 ((G : Int) + 1))) (h2 : w.cell? ⟨B, 2, none⟩ = some (.int .i64 pg)) (h3 : w.cell? ⟨B, 3, none⟩ = some (.int .i64 ns)) :
    Calls Try.prog 32 #[.pointer (some ⟨B, 0, none⟩), .int .i64 k] w fun e w' => e = .returned (.int .i64 ((bnd G pg ns (k + 1) : Int) - (bnd G pg ns k : Int))) ∧ ∃ m, w' = w.drewN m := by
  obtain ⟨P, hP⟩ : ∃ P, P = bnd G pg ns k := ⟨_, rfl⟩
  have hPm : (k : Int) * (pg : Int) = (P : Int) := by rw [hP]; exact bnd_mul hk
  have hPn : P ≤ ns := by rw [hP]; exact bnd_le hGp (by omega)
  by_cases e : k = G
  · subst e
    have hq : Hid (bnd k pg ns (k + 1) = ns) := bnd_last
    rw [← hP, hq.out]
    clear hP
    go_enter Try.func32, Try.ntmps32
    go_wp2_with fail
    go_quiet (fail)
    go_wp2_with fail
    go_ret; exact ⟨rfl, _, rfl⟩
  · have hd : ((k : Int) == (G : Int)) = false := by rw [beq_eq_false_iff_ne]; omega
    have hq : Hid (bnd G pg ns (k + 1) = P + pg) := by rw [hP]; exact bnd_succ (by omega)
    rw [← hP, hq.out]
    clear hP
    go_enter Try.func32, Try.ntmps32
    go_wp2_with fail
    go_ret; exact ⟨ret_int (by omega), 0, (World.drewN_zero _).symm⟩
set_option maxHeartbeats 400000 in
theorem groupOf_any (B : Nat) (G pg k j : Nat) (x : Nat) (w : World) (hk : k ≤ G) (hG : G ≤ 65536) (hx : x ≤ 65536) (hpg : 1 ≤ pg) (hpg2 : pg ≤ 9223372036854775807) (hx1 : k * pg ≤ x) (hx2 : k < G → x < k * pg + pg)
    (h1 : w.cell? ⟨B, 1, none⟩ = some (.int .i64 ((G : Int) + 1))) (h2 : w.cell? ⟨B, 2, none⟩ = some (.int .i64 pg)) :
    Calls Try.prog 34 #[.pointer (some ⟨B, 0, none⟩), .int .i64 x] w fun e w' => e = .returned (.int .i64 k) ∧ ∃ m, w' = w.drewN m := by
  obtain ⟨q, hq⟩ : ∃ q : Nat, q = x / pg := ⟨_, rfl⟩
  have hqI : (x : Int) / (pg : Int) = (q : Int) := by rw [hq]; simp
  have hq1 : k ≤ q := by rw [hq]; exact (Nat.le_div_iff_mul_le (by omega)).2 hx1
  have hq2 : k < G → q = k := fun h => by
    have h3 : q < k + 1 := by rw [hq]; exact (Nat.div_lt_iff_lt_mul (by omega)).2 (by rw [Nat.succ_mul]; exact hx2 h)
    omega
  have hq3 : q ≤ x := by rw [hq]; exact Nat.div_le_self _ _
  have HQ := hide hq2
  clear hq hq2 hx1 hx2
  go_enter Try.func34, Try.ntmps34
  go_wp2_with fail
  go_region
  all_goals go_wp2_with fail
  all_goals go_ret
  all_goals exact ⟨ret_int (by
    by_cases h : k < G
    · have := HQ.out h; omega
    · omega), 1, rfl⟩

/-- Where a slice that is cut at l begins. -/
def cutA (a : Option Addr) (l c : Nat) : Option Addr := if c = l then a else a.map (·.add l)
theorem run_cut8 (a : Option Addr) (n c l h : Nat) (k1 k2 : IntKind) (x y : Int) (hx : x = l) (hy : y = h) (h1 : l ≤ h) (h2 : h ≤ c) (W : World) :
    (Instr.slice 32 (.slice a n c) (some (.int k1 x)) (some (.int k2 y)) none).run Try.prog W = .ok (.slice (cutA a l c) (h - l) (c - l)) W := by
  subst hx hy
  rw [run_slice_lh W 32 a n c Try.underlying32 k1 k2 l h (by omega) (by omega) (by omega)]
  have hs : ∀ W : World, (sizeOf (Try.prog.elem 32)).run Try.prog W = .ok 1 W := fun W => by kernel_rfl
  rw [hs]
  simp [Result.andThen, sliced, cutA]
theorem Row.cut {k : IntKind} {w : World} {a : Option Addr} {n : Nat} {Z : Nat → Int} (h : Row k w a n Z) (l m c : Nat) (h1 : l + m ≤ n) (h2 : n ≤ c) : Row k w (cutA a l c) m (fun i => Z (l + i)) := fun i hi => by
  obtain ⟨b, off, e, hc⟩ := h (l + i) (by omega)
  refine ⟨b, off + l, ?_, by rw [Nat.add_assoc]; exact hc⟩
  unfold cutA
  rw [if_neg (by omega), e]
  have ea : (Addr.mk b off none).add l = ⟨b, off + l, none⟩ := by unfold Addr.add; split <;> simp_all
  simp [ea]
/-- The room that read writes the boundaries into. -/
def Room (w : World) (aN : Option Addr) (nN : Nat) : Prop := (aN = none ∧ nN = 0) ∨ ∃ B cur, aN = some ⟨B, 0, none⟩ ∧ w.heap[B]? = some (.cells cur 21) ∧ cur.size = nN
def Resized (aN : Option Addr) (m : Nat) (w : World) (e : Ending) (w' : World) : Prop :=
  ∃ R c' cur, e = .returned (.slice (some ⟨R, 0, none⟩) m c') ∧ w'.heap[R]? = some (.cells cur 21) ∧ m ≤ cur.size ∧ (R = w.heap.size ∨ aN = some ⟨R, 0, none⟩) ∧ Below w.heap.size w w'
set_option maxHeartbeats 400000 in
theorem resize_any (aN : Option Addr) (nN m : Nat) (w : World) (hN : nN ≤ 65536) (hm0 : 1 ≤ m) (hm : m ≤ 65537) (h : Room w aN nN) :
    Calls Try.prog 33 #[.slice aN nN nN, .int .i64 m] w fun e w' => Resized aN m w e w' := by
  by_cases hc : nN < m
  · have hmk : ∀ W : World, (Instr.makeSlice 23 (.int .i64 m) (.int .i64 m)).run Try.prog W = .ok (.slice (some ⟨W.heap.size, 0, none⟩) m m) (W.alloc (.cells (madeCells #[.int .i32 0] m) 21)) := fun W => by
      obtain ⟨i0, hi, hz0, hz1, hz2⟩ := info_parts info21
      rw [run_make W 23 21 i0 _ Try.underlying23 hi hz0 .i64 .i64 m m (by omega) (by omega) (by rw [hz2]; omega) (by omega), hz1]
      simp [Value.cells]
    have hsz : (madeCells #[Value.int .i32 0] m).size = m := by simp [madeCells]
    generalize madeCells #[Value.int .i32 0] m = cur at hmk hsz
    clear h
    have HS := hide hsz
    clear hsz
    go_enter Try.func33, Try.ntmps33
    go_wp2_with fail
    go_ret
    exact ⟨_, _, cur, rfl, heap_alloc_new _ _, by rw [HS.out]; omega, .inl rfl, (Below.refl _ _).alloc (Nat.le_refl _) _⟩
  · rcases h with ⟨_, h0⟩ | ⟨B, cur, rfl, hb, hs⟩
    · omega
    · have HS := hide (And.intro hb hs)
      clear hb hs
      go_enter Try.func33, Try.ntmps33
      go_wp2_with fail
      go_ret
      exact ⟨B, _, cur, rfl, HS.out.1, by rw [HS.out.2]; omega, .inr rfl, Below.refl _ _⟩
end Go.Proofs.Qxb6617152a
