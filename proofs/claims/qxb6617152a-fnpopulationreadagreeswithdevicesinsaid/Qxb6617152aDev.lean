import Derived.Test.Qxb6617152aRead
import Derived.WalkKit
import Derived.WalkSpells
import Derived.WalkLawsBesides
import Derived.Deep.QuietTactic
import Derived.BigQuiet
namespace Go.Proofs.Qxb6617152a
open Go.RowKit
set_option linter.unusedVariables false
set_option maxHeartbeats 400000 in
theorem gdev_any (D : Int) (aD aR : Option Addr) (nd cd nR cR j a b : Nat) (Z : Nat → Int) (w : World) (hR : nR ≤ 65537) (hj : j + 1 < nR) (hrow : Row .i32 w aR nR Z) (ha : Z j = a) (hb : Z (j + 1) = b) (hab : a ≤ b) (hbd : b ≤ cd) :
    Calls Try.prog 23 #[.int .i64 D, .slice aD nd cd, .slice aR nR cR, .int .i64 j] w fun e w' => e = .returned (.slice (cutA aD a cd) (b - a) (cd - a)) ∧ Below w.heap.size w w' := by
  obtain ⟨bR, oR, rfl, h0⟩ := hrow j (by omega)
  obtain ⟨bR', oR', e', h1⟩ := hrow (j + 1) (by omega)
  simp only [Option.some.injEq, Addr.mk.injEq, and_true] at e'
  obtain ⟨rfl, rfl⟩ := e'
  rw [ha] at h0
  rw [hb] at h1
  have hlt : bR < w.heap.size := block_lt_of_cell h0
  have hcut := run_cut8 aD nd cd a b .i32 .i32 (a : Int) (b : Int) rfl rfl hab hbd
  have hI : (j : Int) < nR := by omega
  have hI2 : (j : Int) + 1 < nR := by omega
  clear hrow ha hb
  go_enter Try.func23, Try.ntmps23
  go_wp2
  go_quiet (fail)
  go_wp2
  go_ret
  exact ⟨rfl, drewN_below ((Below.refl _ _).alloc (Nat.le_refl _) _) _⟩

set_option maxHeartbeats 800000 in
theorem pdev_any (D : Int) (G pg ns nm k P cnt j : Nat) (lo : Nat) (aM aS aF : Option Addr) (S F : Nat → Int) (A0 : Nat) (w : World)
    (hk : k ≤ G) (hG : G ≤ 65536) (hns : ns ≤ 65536) (hnm : nm ≤ 65536) (hpg : 1 ≤ pg) (hpg2 : pg ≤ 9223372036854775807) (hGp : G * pg ≤ ns)
    (hP : P = bnd G pg ns k) (hC : P + cnt = bnd G pg ns (k + 1)) (hPC : P + cnt ≤ ns) (hj : j < cnt)
    (hSb : ∀ i, i < ns → 0 ≤ S i ∧ S i ≤ 255) (hF0 : F k = sum S P) (hA : sum S (P + j) = A0) (hAm : (A0 : Int) + S (P + j) ≤ nm)
    (hS : Row .u8 w aS ns S) (hF : Row .i64 w aF (G + 2) F) :
    Calls Try.prog 24 #[.int .i64 D, .int .i64 ((G : Int) + 1), .int .i64 pg, .int .i64 ns, .slice aM nm nm, .slice aS ns ns, .slice aF (G + 2) (G + 2), .int .i64 ((P : Int) + (j : Int))] w
      fun e w' => e = .returned (.slice (cutA aM A0 nm) (S (P + j)).toNat (nm - A0)) ∧ Below w.heap.size w w' := by
  have hPm : (k : Int) * (pg : Int) = (P : Int) := by rw [hP]; exact bnd_mul hk
  have hPm2 : k * pg = P := by have : ((k * pg : Nat) : Int) = (P : Int) := by simpa using hPm
                               omega
  have hx2 : k < G → P + j < P + pg := fun h => by
    have := bnd_succ (pg := pg) (ns := ns) h
    omega
  have hb := hSb (P + j) (by omega)
  obtain ⟨q, hq⟩ : ∃ q : Nat, S (P + j) = q := ⟨(S (P + j)).toNat, by omega⟩
  have hcutS := run_cut8 aS ns ns P (P + j) .i64 .i64 (P : Int) ((P : Int) + (j : Int)) rfl (by omega) (by omega) (by omega)
  rw [Nat.add_sub_cancel_left] at hcutS
  have hcutM := run_cut8 aM nm nm A0 (A0 + q) .i64 .i64 (A0 : Int) ((A0 : Int) + (q : Int)) rfl (by omega) (by omega) (by omega)
  rw [Nat.add_sub_cancel_left] at hcutM
  have hres : (S (P + j)).toNat = q := by omega
  rw [hres]
  obtain ⟨bF, oF, rfl, f0⟩ := hF k (by omega)
  have hlF : bF < w.heap.size := block_lt_of_cell f0
  obtain ⟨bS, oS, rfl, s0⟩ := hS (P + j) (by omega)
  have hlS : bS < w.heap.size := block_lt_of_cell s0
  rw [hq] at s0
  have hsum := sum_bd hSb P (by omega)
  obtain ⟨f, hf⟩ : ∃ f, f = F k := ⟨_, rfl⟩
  rw [← hf] at f0
  have hf0 : 0 ≤ f := by omega
  have hf1 : f ≤ 16777216 := by omega
  have HF := hide (hf.trans hF0)
  have HPB := hide (And.intro hP hC)
  have hqn : (A0 : Int) + (q : Int) ≤ (nm : Int) := by omega
  have hq5 : (q : Int) ≤ 255 := by omega
  have HQ := hide hq
  have HA := hide hA
  have HGO : Hid (∀ W : World, W.cell? ⟨w.heap.size, 1, none⟩ = some (.int .i64 ((G : Int) + 1)) → W.cell? ⟨w.heap.size, 2, none⟩ = some (.int .i64 pg) → Calls Try.prog 34 #[.pointer (some ⟨w.heap.size, 0, none⟩), .int .i64 ((P : Int) + (j : Int))] W fun e w' => e = .returned (.int .i64 k) ∧ ∃ m, w' = W.drewN m) := fun W h1 h2 => by
    have h := groupOf_any w.heap.size G pg k j (P + j) W hk hG (by omega) hpg hpg2 (by omega) (fun h => by have := hx2 h; omega) h1 h2
    have e : ((P + j : Nat) : Int) = (P : Int) + (j : Int) := by omega
    rw [e] at h; exact h
  have HS := hide hS
  clear hS hF hP hC hF0 hf hq hA hsum hres hPm2 hx2 hb
  go_enter Try.func24, Try.ntmps24
  go_wp2_with (first | (go_at_call 29; go_in) | (go_at_call 34; refine (HGO.out _ ?_ ?_).mono ?_))
  · simp
  · simp
  rintro e w1 ⟨rfl, m1, rfl⟩
  go_wp2_with fail
  go_quiet (fail)
  go_wp2_with fail
  clear hPm HGO hcutS f0
  have hadd : (Addr.mk bS oS none).add P = ⟨bS, oS + P, none⟩ := by unfold Addr.add; split <;> simp_all
  have eS : cutA (some ⟨bS, oS, none⟩) P ns = some ⟨bS, oS + P, none⟩ := by
    unfold cutA; rw [if_neg (by omega)]; simp [hadd]
  go_loop [6, 8, 32] (fun x _ y => ∃ (i : Nat) (r : Int), i ≤ j ∧ y = .int .i64 i ∧ x = .int .i64 r ∧ 0 ≤ r ∧ r ≤ 16777216 ∧ Hid (r = sum S (P + i))) (fun _ _ y => j - (intOf y).toNat)
  case atStart => exact ⟨0, f, by omega, rfl, rfl, hf0, hf1, HF.out⟩
  case round =>
    obtain ⟨i, r, hi, rfl, rfl, hr0, hr1, hr⟩ := hrel
    by_cases hlt : i < j
    · obtain ⟨b', o', e', hcS⟩ := HS.out (P + i) (by omega)
      simp only [Option.some.injEq, Addr.mk.injEq, and_true] at e'
      obtain ⟨rfl, rfl⟩ := e'
      obtain ⟨hs1, hs2⟩ := hSb (P + i) (by omega)
      rw [← Nat.add_assoc] at hcS
      have hji : (i : Int) < (j : Int) := by omega
      have hb1 := sum_bd hSb (P + (i + 1)) (by omega)
      have hsx : Hid (sum S (P + (i + 1)) = r + S (P + i)) := by unfold Hid; rw [hr.out]; rfl
      have hr2 : r + S (P + i) ≤ 16777216 := by rw [← hsx.out]; omega
      clear hb1 s0
      rw [eS]
      go_wp2_with fail
      go_round
      case rel => exact ⟨_, _, .int .i64 ((i : Int) + 1), ⟨i + 1, by omega, by go_num, _, rfl, by omega, hr2, hsx.out.symm⟩, rfl, rfl, rfl⟩
      case measure => simp [intOf]; omega
    · obtain rfl : i = j := by omega
      obtain rfl : r = (A0 : Int) := hr.out.trans HA.out
      have hx1 : (P : Int) + (i : Int) < (ns : Int) := by omega
      have hx0 : 0 ≤ (P : Int) + (i : Int) := by omega
      have hx2 : ((P : Int) + (i : Int)).toNat = P + i := by omega
      go_wp2_with fail
      go_quiet (fail)
      go_wp2
      go_ret
      refine ⟨rfl, ?_⟩
      first
        | exact drewN_below ((Below.refl _ _).alloc (Nat.le_refl _) _) _
        | exact drewN_below (drewN_below ((Below.refl _ _).alloc (Nat.le_refl _) _) _) _
end Go.Proofs.Qxb6617152a
