import Derived.Test.Qxb6618949aMr
import Derived.WalkKit
import Derived.WalkSpells
import Derived.WalkLawsBesides
import Derived.Deep.QuietTactic
import Derived.BigQuiet
import Derived.Deep.DeepCutAuto
namespace Go.Proofs.Qxb6618949a
open Go.RowKit
set_option linter.unusedVariables false
set_option maxRecDepth 20000 in
set_option maxHeartbeats 1600000 in
theorem first_any (an : Option Addr) (K cN wd k r : Nat) (N : Nat → Nat) (X : Nat → Nat → Int) (w : World) (hw0 : 0 < wd) (hw : wd ≤ 32) (hk : k < K) (hr : r < N k) (hK : K ≤ 1048576) (hN : ∀ k, k < K → N k ≤ 4096) (hX : ∀ k x, 0 ≤ X k x ∧ X k x ≤ 255)
    (h : Lst .u8 w an K (fun k => N k * wd) X) (hS : (tab wd K N X).Sorted) :
    Calls Try.prog 11 #[.slice an K cN, .int .i64 wd, .int .i64 k, .int .i64 r] w fun e w' => RetIff ((tab wd K N X).First k r) e ∧ ∃ m, w' = w.drewN m := by
  have HX := hide (And.intro h (And.intro hX (And.intro hN hS)))
  clear h hX hN hS
  have hNk : N k ≤ 4096 := HX.out.2.2.1 k hk
  go_enter Try.func11, Try.ntmps11
  go_wp2_with fail
  refine (nm_any _ K cN wd k r N X w hw0 hw hk hK hr hNk HX.out.1).mono ?_
  rintro e w1 ⟨⟨B, off, c, rfl, hme⟩, rfl⟩
  have HM := hide hme
  clear hme
  go_upto_region 2 with fail
  go_cut [28] (fun cv wx => ∃ m, cv = .bool (decide (0 < r ∧ (tab wd K N X).A k (r - 1) = (tab wd K N X).A k r)) ∧ wx = w1.drewN m)
  case first =>
    by_cases h0 : r = 0
    · subst h0
      go_wp2_with fail
      go_meet
      exact ⟨0, by simp, rfl⟩
    · obtain ⟨s, rfl⟩ : ∃ s, r = s + 1 := ⟨r - 1, by omega⟩
      have i1 : (0 : Int) < ((s + 1 : Nat) : Int) := by omega
      have i2 : ((s + 1 : Nat) : Int) - 1 = (s : Int) := by omega
      have i3 : (0 : Int) < (s : Int) + 1 := by omega
      have i4 : ((s : Int) + 1) - 1 = (s : Int) := by omega
      go_wp2_with fail
      refine (nm_any _ K cN wd k s N X w1 hw0 hw hk hK (by omega) hNk HX.out.1).mono ?_
      rintro e w2 ⟨⟨B2, off2, c2, rfl, hme⟩, rfl⟩
      have HM2 := hide hme
      clear hme
      go_wp2_with fail
      refine (lex_any _ _ wd c2 c _ _ _ (by omega) HM2.out HM.out).mono ?_
      rintro e w3 ⟨hl, m2, rfl⟩
      obtain rfl := hl.eq
      clear hl
      rcases lexF_lt (n := wd) (fun i => HX.out.2.1 k (s * wd + i)) (fun i => HX.out.2.1 k ((s + 1) * wd + i)) with ⟨e, g⟩ | ⟨e, g⟩ | ⟨e, g⟩
      · rw [e]
        go_wp2_with fail
        go_meet
        refine ⟨m2, ?_, rfl⟩
        rw [decide_eq_false]
        rintro ⟨_, g2⟩
        have g2 : key (fun i => X k (s * wd + i)) wd = key (fun i => X k ((s + 1) * wd + i)) wd := g2
        omega
      · rw [e]
        go_wp2_with fail
        go_meet
        refine ⟨m2, ?_, rfl⟩
        rw [decide_eq_true]
        exact ⟨by omega, g⟩
      · rw [e]
        go_wp2_with fail
        go_meet
        refine ⟨m2, ?_, rfl⟩
        rw [decide_eq_false]
        rintro ⟨_, g2⟩
        have g2 : key (fun i => X k (s * wd + i)) wd = key (fun i => X k ((s + 1) * wd + i)) wd := g2
        omega
  case rest =>
    obtain ⟨m, rfl, rfl⟩ := hcut
    by_cases h0 : 0 < r ∧ (tab wd K N X).A k (r - 1) = (tab wd K N X).A k r
    · rw [decide_eq_true h0]
      go_wp2_with fail
      go_ret
      refine ⟨⟨false, rfl, ⟨fun e => Bool.noConfusion e, fun e => ?_⟩⟩, _, rfl⟩
      rcases e.1 with g | g
      · omega
      · exact absurd h0.2 g
    · rw [decide_eq_false h0]
      have H0 := hide h0
      clear h0
      go_wp2_with fail
      go_loopw [10] (fun x wr => ∃ (j m : Nat), j ≤ k ∧ x = .int .i64 j ∧ wr = w1.drewN m ∧ Hid (∀ k2, k2 < j → ∀ r2, r2 < N k2 → (tab wd K N X).A k2 r2 ≠ (tab wd K N X).A k r)) (fun x _ => k - (intOf x).toNat)
      case atStart => exact ⟨0, m, by omega, rfl, rfl, fun k2 h2 => by omega⟩
      case round =>
        obtain ⟨j, m, hj, rfl, rfl, hh⟩ := hrel
        by_cases hlt : j < k
        · have j1 : (j : Int) < (k : Int) := by omega
          have j2 : (k : Int) ≤ 1048576 := by omega
          go_wp2_with fail
          refine (has_any _ _ K cN c wd j N X _ (w1.drewN m) hw0 hw (by omega) hK (HX.out.2.2.1 j (by omega)) HX.out.2.1 (fun x => HX.out.2.1 k (r * wd + x)) HX.out.1 HM.out HX.out.2.2.2).mono ?_
          rintro e w3 ⟨⟨b, rfl, hb⟩, m2, rfl⟩
          have HB := hide hb
          clear hb
          cases b
          · go_wp2_with fail
            go_roundw
            case rel =>
              refine ⟨j + 1, _, by omega, by go_num, rfl, fun k2 h2 r2 hr2 e2 => ?_⟩
              by_cases e3 : k2 = j
              · subst e3
                exact Bool.noConfusion (HB.out.2 ⟨r2, hr2, e2⟩)
              · exact hh.out k2 (by omega) r2 hr2 e2
            case measure => simp [intOf]; omega
          · go_wp2_with fail
            go_ret
            refine ⟨⟨false, rfl, ⟨fun e => Bool.noConfusion e, fun e => ?_⟩⟩, _, rfl⟩
            obtain ⟨r2, hr2, e2⟩ := HB.out.1 (by trivial)
            exact absurd e2 (e.2 j hlt r2 hr2)
        · obtain rfl : k = j := by omega
          go_wp2_with fail
          go_ret
          refine ⟨⟨true, rfl, ⟨fun _ => ⟨?_, hh.out⟩, fun _ => rfl⟩⟩, _, rfl⟩
          by_cases g : r = 0
          · exact .inl g
          · exact .inr fun e2 => H0.out ⟨by omega, e2⟩
theorem Tab.ct_step (T : Tab) (p : Nat → Nat) (k : Nat) : T.ct p (k + 1) = T.ct p k + T.cr k (p k) := rfl
theorem Tab.cr_step (T : Tab) (k r : Nat) : T.cr k (r + 1) = T.cr k r + (if T.fb k r then 1 else 0) := rfl
set_option maxRecDepth 20000 in
set_option maxHeartbeats 1600000 in
theorem count_any (an ao : Option Addr) (K cN cO wd : Nat) (N : Nat → Nat) (X Y : Nat → Nat → Int) (w : World) (hw0 : 0 < wd) (hw : wd ≤ 32) (hK : K ≤ 1048576) (hN : ∀ k, k < K → N k ≤ 4096) (hR : ∀ k, k ≤ K → rows N k ≤ 8192) (hX : ∀ k x, 0 ≤ X k x ∧ X k x ≤ 255)
    (h : Lst .u8 w an K (fun k => N k * wd) X) (ho : Lst .i64 w ao K N Y) (hS : (tab wd K N X).Sorted) :
    Calls Try.prog 10 #[.slice an K cN, .slice ao K cO, .int .i64 wd] w fun e w' => e = .returned (.int .i64 ((tab wd K N X).ct N K : Nat)) ∧ ∃ m, w' = w.drewN m := by
  have HX := hide (And.intro h (And.intro hX (And.intro hN (And.intro hS (And.intro ho hR)))))
  clear h hX hN hS ho hR
  go_enter Try.func10, Try.ntmps10
  go_wp2_with fail
  go_loopw [7, 8, 9] (fun s x _ wr => ∃ (k m : Nat), k ≤ K ∧ x = .int .i64 k ∧ s = .int .i64 ((tab wd K N X).ct N k : Nat) ∧ wr = w.drewN m) (fun _ x _ _ => K - (intOf x).toNat)
  case atStart => exact ⟨0, 0, by omega, rfl, rfl, rfl⟩
  case round =>
    obtain ⟨k, m, hk, rfl, rfl, rfl⟩ := hrel
    by_cases hlt : k < K
    · have j1 : (k : Int) < (K : Int) := by omega
      have j2 : (K : Int) ≤ 1048576 := by omega
      obtain ⟨bo, oo, om, co, rfl, d0, _⟩ := HX.out.2.2.2.2.1 k hlt
      have hNk : N k ≤ 4096 := HX.out.2.2.1 k hlt
      have hNi : (N k : Int) ≤ 4096 := by omega
      have hct : ((tab wd K N X).ct N k : Int) ≤ 8192 := by
        have g1 := Tab.ct_le (tab wd K N X) N k
        have g2 := HX.out.2.2.2.2.2 k hk
        omega
      have hs := hide (Tab.ct_step (tab wd K N X) N k)
      obtain ⟨C, hC⟩ : ∃ C, (tab wd K N X).ct N k = C := ⟨_, rfl⟩
      have HC := hide hC
      rw [hC] at hct ⊢
      clear hC
      go_wp2_with fail
      go_loopw [7, 9] (fun s x wr => ∃ (r m : Nat), r ≤ N k ∧ x = .int .i64 r ∧ s = .int .i64 (C + (tab wd K N X).cr k r : Nat) ∧ wr = w.drewN m) (fun _ x _ => N k - (intOf x).toNat)
      case atStart => exact ⟨0, m, by omega, rfl, rfl, rfl⟩
      case round =>
        obtain ⟨r, m, hr, rfl, rfl, rfl⟩ := hrel
        by_cases hrl : r < N k
        · have j3 : (r : Int) < (N k : Int) := by omega
          have hcr : ((tab wd K N X).cr k r : Int) ≤ 4096 := by
            have g1 := Tab.cr_le (tab wd K N X) k r
            omega
          have hs2 := hide (Tab.cr_step (tab wd K N X) k r)
          obtain ⟨D, hD⟩ : ∃ D, (tab wd K N X).cr k r = D := ⟨_, rfl⟩
          have HD := hide hD
          rw [hD] at hcr ⊢
          clear hD
          go_wp2_with fail
          refine (first_any _ K cN wd k r N X (w.drewN m) hw0 hw hlt hrl hK HX.out.2.2.1 HX.out.2.1 HX.out.1 HX.out.2.2.2.1).mono ?_
          rintro e w3 ⟨⟨b, rfl, hb⟩, m2, rfl⟩
          rw [← Tab.fb_iff] at hb
          have HB := hide (Bool.eq_iff_iff.2 hb)
          clear hb
          cases b
          · go_wp2_with fail
            go_roundw
            case rel =>
              refine ⟨r + 1, _, by omega, by go_num, ?_, rfl⟩
              rw [hs2.out, ← HB.out, HD.out]
              rfl
            case measure => simp [intOf]; omega
          · go_wp2_with fail
            go_roundw
            case rel =>
              refine ⟨r + 1, _, by omega, by go_num, ?_, rfl⟩
              rw [hs2.out, ← HB.out, HD.out]
              rw [if_pos rfl]
              exact congrArg (Value.int .i64) (by omega)
            case measure => simp [intOf]; omega
        · obtain rfl : N k = r := by omega
          go_wp2_with fail
          go_roundw
          case rel => exact ⟨k + 1, _, by omega, by go_num, by rw [hs.out, HC.out], rfl⟩
          case measure => simp [intOf]; omega
    · obtain rfl : K = k := by omega
      go_wp2_with fail
      go_ret
      exact ⟨rfl, _, rfl⟩
end Go.Proofs.Qxb6618949a
