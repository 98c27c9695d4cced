import Derived.Test.Qxb6618949aMw
import Derived.WalkKit
import Derived.WalkSpells
import Derived.WalkLawsBesides
namespace Go.Proofs.Qxb6618949a
open Go.RowKit
set_option linter.unusedVariables false
/-- What zzBytes tells. -/
def Bnd (K J : Nat) (L M : Nat → Nat) : Prop := K ≤ 1048576 ∧ J ≤ 1048576 ∧ (∀ k, k < K → L k ≤ 1048576) ∧ ∀ k, k < J → M k ≤ 1048576
def RetBnd (K J : Nat) (L M : Nat → Nat) (e : Ending) : Prop := ∃ b, e = .returned (.bool b) ∧ (b = true → Bnd K J L M)
theorem RetBnd.no (K J : Nat) (L M : Nat → Nat) : RetBnd K J L M (.returned (.bool false)) := ⟨false, rfl, fun e => Bool.noConfusion e⟩
set_option maxRecDepth 20000 in
set_option maxHeartbeats 1600000 in
theorem bytes6_any (an ao : Option Addr) (K J cN cO : Nat) (wd : Int) (L M : Nat → Nat) (X Y : Nat → Nat → Int) (w : World) (h : Lst .u8 w an K L X) (ho : Lst .i64 w ao J M Y) :
    Calls Try.prog 6 #[.slice an K cN, .slice ao J cO, .int .i64 wd] w fun e w' => RetBnd K J L M e ∧ w' = w := by
  have HX := hide (And.intro h ho)
  clear h ho
  go_enter Try.func6, Try.ntmps6
  by_cases hK : K ≤ 1048576
  · have k1 : ¬ (1048576 : Int) < (K : Int) := by omega
    go_wp2_with fail
    go_loopw [7, 8] (fun s x wr => ∃ (S k : Nat), k ≤ K ∧ S ≤ 1048576 ∧ s = .int .i64 S ∧ x = .int .i64 k ∧ wr = w ∧ Hid (∀ i, i < k → L i ≤ 1048576)) (fun _ x _ => K - (intOf x).toNat)
    case atStart => exact ⟨K, 0, by omega, hK, rfl, rfl, rfl, fun i hi => by omega⟩
    case round =>
      obtain ⟨S, k, hk, hS, rfl, rfl, rfl, hf⟩ := hrel
      have s1 : (S : Int) ≤ 1048576 := by omega
      by_cases hlt : k < K
      · have j1 : (k : Int) < (K : Int) := by omega
        obtain ⟨bn, on, nm, cn, rfl, e0, _⟩ := HX.out.1 k hlt
        by_cases hL : L k ≤ 1048576
        · have l1 : (L k : Int) ≤ 1048576 := by omega
          have l2 : ¬ (1048576 : Int) < (L k : Int) := by omega
          by_cases hSL : S + L k ≤ 1048576
          · have l3 : ¬ (1048576 : Int) < (S : Int) + (L k : Int) := by omega
            go_wp2_with fail
            go_roundw
            case rel =>
              refine ⟨S + L k, k + 1, by omega, hSL, by go_num, by go_num, by trivial, fun i hi => ?_⟩
              by_cases e : i = k
              · subst e; exact hL
              · exact hf.out i (by omega)
            case measure => simp [intOf]; omega
          · have l3 : (1048576 : Int) < (S : Int) + (L k : Int) := by omega
            go_wp2_with fail
            go_ret
            exact ⟨.no _ _ _ _, rfl⟩
        · have l2 : (1048576 : Int) < (L k : Int) := by omega
          go_wp2_with fail
          go_ret
          exact ⟨.no _ _ _ _, rfl⟩
      · obtain rfl : K = k := by omega
        by_cases hJ : J ≤ 1048576
        · have k2 : ¬ (1048576 : Int) < (J : Int) := by omega
          have k3 : (J : Int) ≤ 1048576 := by omega
          by_cases hSJ : S + J ≤ 1048576
          · have l3 : ¬ (1048576 : Int) < (S : Int) + (J : Int) := by omega
            go_wp2_with fail
            go_loopw [7, 9] (fun s x wr2 => ∃ (S k : Nat), k ≤ J ∧ S ≤ 1048576 ∧ s = .int .i64 S ∧ x = .int .i64 k ∧ wr2 = wr ∧ Hid (∀ i, i < k → M i ≤ 1048576)) (fun _ x _ => J - (intOf x).toNat)
            case atStart => exact ⟨S + J, 0, by omega, hSJ, by go_num, rfl, rfl, fun i hi => by omega⟩
            case round =>
              obtain ⟨S, k, hk, hS, rfl, rfl, rfl, hf2⟩ := hrel
              have s1 : (S : Int) ≤ 1048576 := by omega
              by_cases hlt : k < J
              · have j1 : (k : Int) < (J : Int) := by omega
                obtain ⟨bn, on, nm, cn, rfl, e0, _⟩ := HX.out.2 k hlt
                by_cases hL : M k ≤ 1048576
                · have l1 : (M k : Int) ≤ 1048576 := by omega
                  have l2 : ¬ (1048576 : Int) < (M k : Int) := by omega
                  by_cases hSL : S + M k ≤ 1048576
                  · have l3 : ¬ (1048576 : Int) < (S : Int) + (M k : Int) := by omega
                    go_wp2_with fail
                    go_roundw
                    case rel =>
                      refine ⟨S + M k, k + 1, by omega, hSL, by go_num, by go_num, by trivial, fun i hi => ?_⟩
                      by_cases e : i = k
                      · subst e; exact hL
                      · exact hf2.out i (by omega)
                    case measure => simp [intOf]; omega
                  · have l3 : (1048576 : Int) < (S : Int) + (M k : Int) := by omega
                    go_wp2_with fail
                    go_ret
                    exact ⟨.no _ _ _ _, rfl⟩
                · have l2 : (1048576 : Int) < (M k : Int) := by omega
                  go_wp2_with fail
                  go_ret
                  exact ⟨.no _ _ _ _, rfl⟩
              · obtain rfl : J = k := by omega
                go_wp2_with fail
                go_ret
                exact ⟨⟨true, rfl, fun _ => ⟨hK, hJ, hf.out, hf2.out⟩⟩, rfl⟩
          · have l3 : (1048576 : Int) < (S : Int) + (J : Int) := by omega
            go_wp2_with fail
            go_ret
            exact ⟨.no _ _ _ _, rfl⟩
        · have k2 : (1048576 : Int) < (J : Int) := by omega
          go_wp2_with fail
          go_ret
          exact ⟨.no _ _ _ _, rfl⟩
  · have k1 : (1048576 : Int) < (K : Int) := by omega
    go_wp2_with fail
    go_ret
    exact ⟨.no _ _ _ _, rfl⟩
set_option maxRecDepth 20000 in
set_option maxHeartbeats 1600000 in
theorem bytes14_any (an ao : Option Addr) (K J cN cO : Nat) (wd : Int) (L M : Nat → Nat) (X Y : Nat → Nat → Int) (w : World) (h : Lst .u8 w an K L X) (ho : Lst .i64 w ao J M Y) :
    Calls Try.prog 14 #[.slice an K cN, .slice ao J cO, .int .i64 wd] w fun e w' => RetBnd K J L M e ∧ w' = w := by
  have HX := hide (And.intro h ho)
  clear h ho
  go_enter Try.func14, Try.ntmps14
  by_cases hK : K ≤ 1048576
  · have k1 : ¬ (1048576 : Int) < (K : Int) := by omega
    go_wp2_with fail
    go_loopw [7, 8] (fun s x wr => ∃ (S k : Nat), k ≤ K ∧ S ≤ 1048576 ∧ s = .int .i64 S ∧ x = .int .i64 k ∧ wr = w ∧ Hid (∀ i, i < k → L i ≤ 1048576)) (fun _ x _ => K - (intOf x).toNat)
    case atStart => exact ⟨K, 0, by omega, hK, rfl, rfl, rfl, fun i hi => by omega⟩
    case round =>
      obtain ⟨S, k, hk, hS, rfl, rfl, rfl, hf⟩ := hrel
      have s1 : (S : Int) ≤ 1048576 := by omega
      by_cases hlt : k < K
      · have j1 : (k : Int) < (K : Int) := by omega
        obtain ⟨bn, on, nm, cn, rfl, e0, _⟩ := HX.out.1 k hlt
        by_cases hL : L k ≤ 1048576
        · have l1 : (L k : Int) ≤ 1048576 := by omega
          have l2 : ¬ (1048576 : Int) < (L k : Int) := by omega
          by_cases hSL : S + L k ≤ 1048576
          · have l3 : ¬ (1048576 : Int) < (S : Int) + (L k : Int) := by omega
            go_wp2_with fail
            go_roundw
            case rel =>
              refine ⟨S + L k, k + 1, by omega, hSL, by go_num, by go_num, by trivial, fun i hi => ?_⟩
              by_cases e : i = k
              · subst e; exact hL
              · exact hf.out i (by omega)
            case measure => simp [intOf]; omega
          · have l3 : (1048576 : Int) < (S : Int) + (L k : Int) := by omega
            go_wp2_with fail
            go_ret
            exact ⟨.no _ _ _ _, rfl⟩
        · have l2 : (1048576 : Int) < (L k : Int) := by omega
          go_wp2_with fail
          go_ret
          exact ⟨.no _ _ _ _, rfl⟩
      · obtain rfl : K = k := by omega
        by_cases hJ : J ≤ 1048576
        · have k2 : ¬ (1048576 : Int) < (J : Int) := by omega
          have k3 : (J : Int) ≤ 1048576 := by omega
          by_cases hSJ : S + J ≤ 1048576
          · have l3 : ¬ (1048576 : Int) < (S : Int) + (J : Int) := by omega
            go_wp2_with fail
            go_loopw [7, 9] (fun s x wr2 => ∃ (S k : Nat), k ≤ J ∧ S ≤ 1048576 ∧ s = .int .i64 S ∧ x = .int .i64 k ∧ wr2 = wr ∧ Hid (∀ i, i < k → M i ≤ 1048576)) (fun _ x _ => J - (intOf x).toNat)
            case atStart => exact ⟨S + J, 0, by omega, hSJ, by go_num, rfl, rfl, fun i hi => by omega⟩
            case round =>
              obtain ⟨S, k, hk, hS, rfl, rfl, rfl, hf2⟩ := hrel
              have s1 : (S : Int) ≤ 1048576 := by omega
              by_cases hlt : k < J
              · have j1 : (k : Int) < (J : Int) := by omega
                obtain ⟨bn, on, nm, cn, rfl, e0, _⟩ := HX.out.2 k hlt
                by_cases hL : M k ≤ 1048576
                · have l1 : (M k : Int) ≤ 1048576 := by omega
                  have l2 : ¬ (1048576 : Int) < (M k : Int) := by omega
                  by_cases hSL : S + M k ≤ 1048576
                  · have l3 : ¬ (1048576 : Int) < (S : Int) + (M k : Int) := by omega
                    go_wp2_with fail
                    go_roundw
                    case rel =>
                      refine ⟨S + M k, k + 1, by omega, hSL, by go_num, by go_num, by trivial, fun i hi => ?_⟩
                      by_cases e : i = k
                      · subst e; exact hL
                      · exact hf2.out i (by omega)
                    case measure => simp [intOf]; omega
                  · have l3 : (1048576 : Int) < (S : Int) + (M k : Int) := by omega
                    go_wp2_with fail
                    go_ret
                    exact ⟨.no _ _ _ _, rfl⟩
                · have l2 : (1048576 : Int) < (M k : Int) := by omega
                  go_wp2_with fail
                  go_ret
                  exact ⟨.no _ _ _ _, rfl⟩
              · obtain rfl : J = k := by omega
                go_wp2_with fail
                go_ret
                exact ⟨⟨true, rfl, fun _ => ⟨hK, hJ, hf.out, hf2.out⟩⟩, rfl⟩
          · have l3 : (1048576 : Int) < (S : Int) + (J : Int) := by omega
            go_wp2_with fail
            go_ret
            exact ⟨.no _ _ _ _, rfl⟩
        · have k2 : (1048576 : Int) < (J : Int) := by omega
          go_wp2_with fail
          go_ret
          exact ⟨.no _ _ _ _, rfl⟩
  · have k1 : (1048576 : Int) < (K : Int) := by omega
    go_wp2_with fail
    go_ret
    exact ⟨.no _ _ _ _, rfl⟩
end Go.Proofs.Qxb6618949a
