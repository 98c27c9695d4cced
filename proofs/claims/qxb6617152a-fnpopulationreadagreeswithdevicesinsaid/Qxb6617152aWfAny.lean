import Derived.Test.Qxb6617152aWf
import Derived.WalkKit
import Derived.WalkSpells
import Derived.WalkLawsBesides
namespace Go.Proofs.Qxb6617152a
open Go.RowKit
set_option linter.unusedVariables false
set_option maxHeartbeats 1600000 in
theorem wf_no (D g0 pg0 ns0 : Int) (nm ns nf : Nat) (adM adS adF : Option Addr) (cM cS cF : Nat) (w : World) (Pr : Prop)
    (hns : ns ≤ 65536) (hnf : nf ≤ 65536) (b1 : -9223372036854775808 ≤ g0) (b2 : g0 ≤ 9223372036854775807) (b3 : -9223372036854775808 ≤ pg0) (b4 : pg0 ≤ 9223372036854775807)
    (h : pg0 < 1 ∨ (1 ≤ pg0 ∧ g0 < 1) ∨ (1 ≤ pg0 ∧ 1 ≤ g0 ∧ g0 ≠ (nf : Int) - 1) ∨ (1 ≤ pg0 ∧ 1 ≤ g0 ∧ g0 = (nf : Int) - 1 ∧ ns0 ≠ ns) ∨ (1 ≤ pg0 ∧ 1 ≤ g0 ∧ g0 = (nf : Int) - 1 ∧ ns0 = ns ∧ 1 < g0 ∧ (ns : Int) / pg0 < g0 - 1) ∨
      (1 ≤ pg0 ∧ 1 ≤ g0 ∧ g0 = (nf : Int) - 1 ∧ ns0 = ns ∧ g0 ≤ (ns : Int) / pg0 + 1 ∧ (D ≤ 256 * (g0 - 1) ∨ 256 * g0 < D)) ∨ (1 ≤ pg0 ∧ 1 = g0 ∧ g0 = (nf : Int) - 1 ∧ ns0 = ns ∧ (D ≤ 256 * (g0 - 1) ∨ 256 * g0 < D))) :
    Calls Try.prog 16 #[.int .i64 D, .int .i64 g0, .int .i64 pg0, .int .i64 ns0, .slice adM nm cM, .slice adS ns cS, .slice adF nf cF] w fun e w' => IsT Pr e ∧ w' = w := by
  rcases h with h | ⟨h1, h⟩ | ⟨h1, h2, h⟩ | ⟨h1, h2, h3, h⟩ | ⟨h1, h2, h3, rfl, h5, h⟩ | ⟨h1, h2, h3, rfl, h5, h⟩ | ⟨h1, rfl, h3, rfl, h⟩
  · go_enter Try.func16, Try.ntmps16
    go_wp2_with fail
    all_goals (go_ret; exact ⟨IsT.no, rfl⟩)
  · go_enter Try.func16, Try.ntmps16
    go_wp2_with fail
    all_goals (go_ret; exact ⟨IsT.no, rfl⟩)
  · have hd : (g0 != (nf : Int) - 1) = true := by simpa using h
    clear h
    go_enter Try.func16, Try.ntmps16
    go_wp2_with fail
    all_goals (go_ret; exact ⟨IsT.no, rfl⟩)
  · have hd : (g0 != (nf : Int) - 1) = false := by simpa using h3
    have hd2 : (ns0 != (ns : Int)) = true := by simpa using h
    clear h h3
    go_enter Try.func16, Try.ntmps16
    go_wp2_with fail
    all_goals (go_ret; exact ⟨IsT.no, rfl⟩)
  · have hd : (g0 != (nf : Int) - 1) = false := by simpa using h3
    have hq0 : 0 ≤ (ns : Int) / pg0 := Int.ediv_nonneg (by omega) (by omega)
    clear h3
    go_enter Try.func16, Try.ntmps16
    go_wp2_with fail
    all_goals (go_ret; exact ⟨IsT.no, rfl⟩)
  · have hd : (g0 != (nf : Int) - 1) = false := by simpa using h3
    have hq0 : 0 ≤ (ns : Int) / pg0 := Int.ediv_nonneg (by omega) (by omega)
    have hgg : g0 ≤ 65536 := by omega
    clear h3
    rcases h with h | h
    all_goals
      go_enter Try.func16, Try.ntmps16
      go_wp2_with fail
      all_goals (go_ret; exact ⟨IsT.no, rfl⟩)
  · have hd : ((1 : Int) != (nf : Int) - 1) = false := by simpa using h3
    clear h3
    rcases h with h | h
    all_goals
      go_enter Try.func16, Try.ntmps16
      go_wp2_with fail
      all_goals (go_ret; exact ⟨IsT.no, rfl⟩)

theorem wf_any (D g0 pg0 ns0 : Int) (nm ns nf : Nat) (adM adS adF : Option Addr) (cM cS cF : Nat) (S F : Nat → Int) (w : World)
    (hns : ns ≤ 65536) (hnm : nm ≤ 65536) (hnf : nf ≤ 65536) (b1 : -9223372036854775808 ≤ g0) (b2 : g0 ≤ 9223372036854775807) (b3 : -9223372036854775808 ≤ pg0) (b4 : pg0 ≤ 9223372036854775807)
    (hS : Row .u8 w adS ns S) (hSb : ∀ i, i < ns → 0 ≤ S i ∧ S i ≤ 255) (hF : Row .i64 w adF nf F) :
    Calls Try.prog 16 #[.int .i64 D, .int .i64 g0, .int .i64 pg0, .int .i64 ns0, .slice adM nm cM, .slice adS ns cS, .slice adF nf cF] w fun e w' => IsT (WF D g0 pg0 ns0 nm ns nf S F) e ∧ w' = w := by
  by_cases c1 : 1 ≤ pg0
  · by_cases c2 : 1 ≤ g0
    · by_cases c3 : g0 = (nf : Int) - 1
      · by_cases c4 : ns0 = ns
        · by_cases c5 : g0 - 1 ≤ (ns : Int) / pg0
          · by_cases c6 : 256 * (g0 - 1) < D ∧ D ≤ 256 * g0
            · subst c4
              obtain ⟨pg, rfl⟩ : ∃ pg : Nat, pg0 = pg := ⟨pg0.toNat, by omega⟩
              obtain ⟨G, rfl⟩ : ∃ G : Nat, nf = G + 2 := ⟨nf - 2, by omega⟩
              obtain rfl : g0 = (G : Int) + 1 := by omega
              have hGp : G * pg ≤ ns := by
                have : G ≤ ns / pg := by
                  have h2 : (G : Int) ≤ ((ns / pg : Nat) : Int) := by rw [Int.natCast_ediv]; omega
                  omega
                exact (Nat.le_div_iff_mul_le (by omega)).1 this
              by_cases hG0 : 0 < G
              · exact wf_loop D G pg nm ns adM adS adF cM cS cF S F w hns hnm (by omega) hG0 (by omega) (by omega) hGp (by omega) (by omega) hS hSb hF
              · exact wf_one D G pg nm ns adM adS adF cM cS cF S F w hns hnm (by omega) (by omega) (by omega) (by omega) hGp (by omega) (by omega) hS hSb hF
            · exact wf_no D g0 pg0 ns0 nm ns nf adM adS adF cM cS cF w _ hns hnf b1 b2 b3 b4 (.inr (.inr (.inr (.inr (.inr (.inl ⟨c1, c2, c3, c4, by omega, by omega⟩))))))
          · by_cases c7 : 1 < g0
            · exact wf_no D g0 pg0 ns0 nm ns nf adM adS adF cM cS cF w _ hns hnf b1 b2 b3 b4 (.inr (.inr (.inr (.inr (.inl ⟨c1, c2, c3, c4, c7, by omega⟩)))))
            · have : 0 ≤ (ns : Int) / pg0 := Int.ediv_nonneg (by omega) (by omega)
              omega
        · exact wf_no D g0 pg0 ns0 nm ns nf adM adS adF cM cS cF w _ hns hnf b1 b2 b3 b4 (.inr (.inr (.inr (.inl ⟨c1, c2, c3, c4⟩))))
      · exact wf_no D g0 pg0 ns0 nm ns nf adM adS adF cM cS cF w _ hns hnf b1 b2 b3 b4 (.inr (.inr (.inl ⟨c1, c2, c3⟩)))
    · exact wf_no D g0 pg0 ns0 nm ns nf adM adS adF cM cS cF w _ hns hnf b1 b2 b3 b4 (.inr (.inl ⟨c1, by omega⟩))
  · exact wf_no D g0 pg0 ns0 nm ns nf adM adS adF cM cS cF w _ hns hnf b1 b2 b3 b4 (.inl (by omega))
end Go.Proofs.Qxb6617152a
