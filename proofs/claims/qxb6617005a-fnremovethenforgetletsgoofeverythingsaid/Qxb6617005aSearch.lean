import Derived.Test.Qxb6617005aRows
import Derived.WalkKit
import Derived.WalkSpells
import Derived.WalkLawsBesides
import Derived.Deep.QuietTactic
import Derived.BigQuiet
namespace Go.Proofs.Qxb6617005a
open Go.RowKit
theorem hide {p : Prop} (h : p) : Hid p := h
theorem drewN_below {B : Nat} {a w : World} (h : Below B a w) (n : Nat) : Below B a (w.drewN n) := ⟨h.os, h.tape, h.output, h.size, h.block⟩
theorem bcell {W w1 : World} (hb : Below W.heap.size W w1) : (∀ b o, b < W.heap.size → w1.cell? ⟨b, o, none⟩ = W.cell? ⟨b, o, none⟩) ∧ (∀ b o, b < W.heap.size → w1.frozen? ⟨b, o, none⟩ = W.frozen? ⟨b, o, none⟩) :=
  ⟨fun b o h => hb.cell (p := ⟨b, o, none⟩) h, fun b o h => hb.frozen (p := ⟨b, o, none⟩) h⟩

theorem ret_int {k : IntKind} {a b : Int} (h : a = b) : Ending.returned (.int k a) = .returned (.int k b) := by rw [h]
/-- cmp.Compare. -/
def cmpB (a b : Int) : Int := if a < b then -1 else if b < a then 1 else 0
set_option maxHeartbeats 400000 in
theorem compare_any (a b : Int) (w : World) :
    Calls Try.prog 39 #[.int .u64 a, .int .u64 b] w fun e w' => e = .returned (.int .i64 (cmpB a b)) ∧ w' = w := by
  go_enter Try.func39, Try.ntmps39
  go_wp2
  · go_ret; exact ⟨ret_int (by unfold cmpB; rw [if_pos (by assumption)]), rfl⟩
  · go_ret; exact ⟨ret_int (by unfold cmpB; rw [if_neg (by omega), if_pos (by assumption)]), rfl⟩
  · go_ret; exact ⟨ret_int (by unfold cmpB; rw [if_neg (by omega), if_neg (by omega)]), rfl⟩
set_option maxHeartbeats 400000 in
theorem key_any (a b r : Int) (w : World) :
    Calls Try.prog 38 #[.agg #[.int .u8 0, .bool false, .nilIface, .int .u64 a, .int .u64 r], .int .u64 b] w fun e w' => e = .returned (.int .i64 (cmpB a b)) ∧ Below w.heap.size w w' := by
  go_enter Try.func38, Try.ntmps38
  go_wp2_with (go_at_call 39; refine (compare_any _ _ _).mono ?_; rintro e w' ⟨rfl, rfl⟩)
  go_ret
  exact ⟨rfl, (Below.refl _ _).alloc (Nat.le_refl _) _⟩

/-- The five cells of a stored span. -/
def SpanAt (w : World) (B o : Nat) (a r : Int) : Prop :=
  w.cell? ⟨B, o, none⟩ = some (.int .u8 0) ∧ w.cell? ⟨B, o + 1, none⟩ = some (.bool false) ∧ w.cell? ⟨B, o + 2, none⟩ = some .nilIface ∧ w.cell? ⟨B, o + 3, none⟩ = some (.int .u64 a) ∧ w.cell? ⟨B, o + 4, none⟩ = some (.int .u64 r)
/-- A Values slice of n spans (A k, R k). -/
def VS (w : World) (ad : Option Addr) (n : Nat) (A R : Nat → Int) : Prop := ∀ k, k < n → ∃ B o, ad = some ⟨B, o, none⟩ ∧ SpanAt w B (o + k * 5) (A k) (R k)
theorem SpanAt.below {w W : World} {H B o : Nat} {a r : Int} (h : SpanAt w B o a r) (hb : Below H w W) (hB : B < H) : SpanAt W B o a r := by
  unfold SpanAt at *
  rw [hb.cell hB, hb.cell hB, hb.cell hB, hb.cell hB, hb.cell hB]; exact h
theorem SpanAt.lt {w : World} {B o : Nat} {a r : Int} (h : SpanAt w B o a r) : B < w.heap.size := block_lt_of_cell h.1
theorem VS.below {w W : World} {ad : Option Addr} {n : Nat} {A R : Nat → Int} (h : VS w ad n A R) (hb : Below w.heap.size w W) : VS W ad n A R := fun k hk => by
  obtain ⟨B, o, e, hs⟩ := h k hk
  exact ⟨B, o, e, hs.below hb hs.lt⟩
/-- i is where the first A not below t stands. -/
def Cut (A : Nat → Int) (n : Nat) (t : Int) (i : Nat) : Prop := i ≤ n ∧ (∀ j, j < i → A j < t) ∧ ∀ j, i ≤ j → j < n → t ≤ A j
def Mono (A : Nat → Int) (n : Nat) : Prop := ∀ i j, i ≤ j → j < n → A i ≤ A j
def Search (A : Nat → Int) (n : Nat) (t : Int) (e : Ending) : Prop := ∃ (i : Nat) (v : Bool), e = .returned (.tuple #[.int .i64 i, .bool v]) ∧ Cut A n t i

set_option maxHeartbeats 400000 in
theorem search_any (A R : Nat → Int) (ad : Option Addr) (n c : Nat) (t : Int) (w : World) (hn : n ≤ 65536) (h : VS w ad n A R) (hm : Mono A n) :
    Calls Try.prog 37 #[.slice ad n c, .int .u64 t, .func (.func 38) #[] #[]] w fun e w' => Search A n t e ∧ Below w.heap.size w w' := by
  go_enter Try.func37, Try.ntmps37
  go_wp2_with fail
  go_loopw [9, 10] (fun x y wr => ∃ i j : Nat, i ≤ j ∧ j ≤ n ∧ x = .int .i64 i ∧ y = .int .i64 j ∧ Hid ((∀ k, k < i → A k < t) ∧ ∀ k, j ≤ k → k < n → t ≤ A k) ∧ Below w.heap.size w wr) (fun x y _ => (intOf y).toNat - (intOf x).toNat)
  case atStart => exact ⟨0, n, by omega, by omega, rfl, rfl, ⟨fun k hk => by omega, fun k h1 h2 => by omega⟩, Below.refl _ _⟩
  case round =>
    obtain ⟨i, j, hij, hj, rfl, rfl, hH, hb⟩ := hrel
    have HB := hide hb
    clear hb
    by_cases hlt : i < j
    · obtain ⟨k, hk⟩ : ∃ k : Nat, ((i : Int) + (j : Int)) / 2 = (k : Int) := ⟨(i + j) / 2, by omega⟩
      obtain ⟨B, o, rfl, hs⟩ := h k (by omega)
      have hlB := hs.lt
      have hs2 := hs.below HB.out hlB
      obtain ⟨c0, c1, c2, c3, c4⟩ := hs2
      have hk1 : i ≤ k := by omega
      have hk2 : k < j := by omega
      have hkn : (k : Int) < n := by omega
      have HM := hide (And.intro hm h)
      clear h hm hs
      by_cases hc : A k < t
      · have hcm : Hid (cmpB (A k) t = -1) := by unfold cmpB; rw [if_pos hc]; rfl
        have HC := hide hc
        clear hc
        go_wp2_with (go_at_call 38; refine (key_any _ _ _ _).mono ?_; rw [hcm.out]; rintro e w' ⟨rfl, hb2⟩)
        go_roundw
        case rel => exact ⟨k + 1, j, by omega, by omega, by go_num, rfl, ⟨fun q hq => by have := HM.out.1 q k (by omega) (by omega); have := HC.out; omega, hH.out.2⟩, HB.out.trans (hb2.mono HB.out.size)⟩
        case measure => simp [intOf]; omega
      · have hcm : Hid (cmpB (A k) t = 0 ∨ cmpB (A k) t = 1) := by unfold cmpB; rw [if_neg hc]; split <;> simp [Hid]
        have HC := hide hc
        clear hc
        obtain ⟨z, ez⟩ : ∃ z, z = cmpB (A k) t := ⟨_, rfl⟩
        rw [← ez] at hcm
        have hz : 0 ≤ z := by rcases hcm.out with h | h <;> omega
        have EZ := hide ez
        clear ez
        go_wp2_with (go_at_call 38; refine (key_any _ _ _ _).mono ?_; rw [← EZ.out]; rintro e w' ⟨rfl, hb2⟩)
        go_roundw
        case rel => exact ⟨i, k, by omega, by omega, rfl, rfl, ⟨hH.out.1, fun q h1 h2 => by have := HM.out.1 k q h1 h2; have := HC.out; omega⟩, HB.out.trans (hb2.mono HB.out.size)⟩
        case measure => simp [intOf]; omega
    · obtain rfl : i = j := by omega
      have hcut : Cut A n t i := ⟨hj, hH.out.1, hH.out.2⟩
      by_cases hin : i < n
      · obtain ⟨B, o, rfl, hs⟩ := h i hin
        have hs2 := hs.below HB.out hs.lt
        obtain ⟨c0, c1, c2, c3, c4⟩ := hs2
        clear h hm hs hH
        go_wp2_with (go_at_call 38; refine (key_any _ _ _ _).mono ?_; rintro e w' ⟨rfl, hb2⟩)
        go_ret2
        exact ⟨⟨i, _, rfl, hcut⟩, HB.out.trans (hb2.mono HB.out.size)⟩
      · clear h hm hH
        go_wp2_with fail
        go_ret2
        exact ⟨⟨i, _, rfl, hcut⟩, HB.out⟩
end Go.Proofs.Qxb6617005a
