import Derived.Test.Qxb6618949aNd
import Derived.WalkKit
import Derived.WalkSpells
import Derived.WalkLawsBesides
import Derived.Deep.QuietTactic
import Derived.BigQuiet
import Derived.RegionTactic
import Derived.Deep.RegionHeld3
import Derived.BigRegion
namespace Go.Proofs.Qxb6618949a
open Go.RowKit
set_option linter.unusedVariables false
/-- The order of the first n numbers. -/
def lexF (X Y : Nat → Int) : Nat → Int
  | 0 => 0
  | n + 1 => if lexF X Y n = 0 then (if X n < Y n then -1 else if Y n < X n then 1 else 0) else lexF X Y n
theorem lexF_is (X Y : Nat → Int) : ∀ n, IsLex X Y n (lexF X Y n)
  | 0 => .inl ⟨rfl, fun i hi => by omega⟩
  | n + 1 => by
    have h := lexF_is X Y n
    unfold lexF
    rcases h with ⟨e, h⟩ | ⟨e, i, hi, he, hl⟩ | ⟨e, i, hi, he, hl⟩
    · rw [if_pos e]
      by_cases g : X n < Y n
      · rw [if_pos g]; exact .inr (.inl ⟨rfl, n, by omega, h, g⟩)
      · rw [if_neg g]
        by_cases g2 : Y n < X n
        · rw [if_pos g2]; exact .inr (.inr ⟨rfl, n, by omega, h, g2⟩)
        · rw [if_neg g2]
          refine .inl ⟨rfl, fun i hi => ?_⟩
          by_cases hn : i < n
          · exact h i hn
          · obtain rfl : i = n := by omega
            omega
    · rw [if_neg (by rw [e]; decide)]
      exact .inr (.inl ⟨e, i, by omega, he, hl⟩)
    · rw [if_neg (by rw [e]; decide)]
      exact .inr (.inr ⟨e, i, by omega, he, hl⟩)
theorem lexF_congr {X Y X' Y' : Nat → Int} {m : Nat} (hx : ∀ i, i < m → X i = X' i) (hy : ∀ i, i < m → Y i = Y' i) : lexF X Y m = lexF X' Y' m :=
  ((lexF_is X Y m).congr hx hy).unique (lexF_is X' Y' m)
theorem RetLex.eq {X Y : Nat → Int} {m : Nat} {e : Ending} (h : RetLex X Y m e) : e = .returned (.int .i64 (lexF X Y m)) := by
  obtain ⟨v, rfl, hv⟩ := h
  rw [hv.unique (lexF_is X Y m)]
/-- The bytes of the column. -/
def Byt (w : World) (B L : Nat) (V : Nat → Int) : Prop := ∀ x, x < L → w.cell? ⟨B, x, none⟩ = some (.int .u8 (V x)) ∧ 0 ≤ V x ∧ V x ≤ 255
set_option maxHeartbeats 400000 in
theorem compare_any (Bc Bb B wd n L i j : Nat) (V : Nat → Int) (w : World) (hw0 : 0 < wd) (hw : wd ≤ 32) (hi : i < 16384) (hIL : i * wd + wd ≤ L) (hj : j < 16384) (hJL : j * wd + wd ≤ L) (hL : L ≤ 1048576) (h : Col w Bc Bb B wd n L) (hV : Byt w B L V) :
    Calls Try.prog 25 #[.pointer (some ⟨Bc, 0, none⟩), .int .i64 i, .int .i64 j] w fun e w' => e = .returned (.int .i64 (lexF (fun t => V (i * wd + t)) (fun t => V (j * wd + t)) wd)) ∧ ∃ m, w' = w.drewN m := by
  have CR : Hid (∀ m x, x < 16384 → x * wd + wd ≤ L → Calls Try.prog 34 #[.pointer (some ⟨Bc, 0, none⟩), .int .i64 (x : Nat)] (w.drewN m) fun e w' => e = .returned (.slice (some ⟨B, x * wd, none⟩) wd wd) ∧ ∃ m', w' = (w.drewN m).drewN m') := fun m x e2 e3 => row_any Bc Bb B wd n L x _ _ hw0 hw e2 rfl e3 hL h
  have C3 : Hid (∀ m, Calls Try.prog 33 #[.slice (some ⟨B, i * wd, none⟩) wd wd, .slice (some ⟨B, j * wd, none⟩) wd wd] (w.drewN m) fun e w' => e = .returned (.int .i64 (lexF (fun t => V (i * wd + t)) (fun t => V (j * wd + t)) wd)) ∧ ∃ m', w' = (w.drewN m).drewN m') := fun m => by
    refine (cmp_any B _ wd B _ wd wd (fun t => V (i * wd + t)) (fun t => V (j * wd + t)) (w.drewN m) (fun t ht => (hV (i * wd + t) (by omega)).1) (fun t ht => (hV (j * wd + t) (by omega)).1) (fun t ht => (hV (i * wd + t) (by omega)).2) (fun t ht => (hV (j * wd + t) (by omega)).2)).mono ?_
    rintro e w' ⟨h, rfl⟩
    exact ⟨h.eq, 0, rfl⟩
  have C0 := hide h
  clear h hV
  go_enter Try.func25, Try.ntmps25
  go_wp2_with fail
  go_quiet (first | (go_at_call 34; exact Calls.quiet_of (CR.out _ _ (by assumption) (by assumption))) | (go_at_call 33; exact Calls.quiet_of (C3.out _)))
  go_wp2_with fail
  go_ret
  exact ⟨rfl, _, rfl⟩
set_option maxHeartbeats 400000 in
theorem zcompare_any (Bc Bb B wd n L i j : Nat) (V : Nat → Int) (w : World) (hw0 : 0 < wd) (hw : wd ≤ 32) (hi : i < 16384) (hIL : i * wd + wd ≤ L) (hj : j < 16384) (hJL : j * wd + wd ≤ L) (hL : L ≤ 1048576) (h : Col w Bc Bb B wd n L) (hV : Byt w B L V) :
    Calls Try.prog 18 #[.pointer (some ⟨Bc, 0, none⟩), .int .i64 i, .int .i64 j] w fun e w' => e = .returned (.int .i64 (lexF (fun t => V (i * wd + t)) (fun t => V (j * wd + t)) wd)) ∧ ∃ m, w' = w.drewN m := by
  have C := hide (compare_any Bc Bb B wd n L i j V w hw0 hw hi hIL hj hJL hL h hV)
  clear h hV
  go_enter Try.func18, Try.ntmps18
  go_wp2_with fail
  refine C.out.mono ?_
  rintro e w1 ⟨rfl, m, rfl⟩
  go_wp2_with fail
  go_ret
  exact ⟨rfl, _, rfl⟩
end Go.Proofs.Qxb6618949a
