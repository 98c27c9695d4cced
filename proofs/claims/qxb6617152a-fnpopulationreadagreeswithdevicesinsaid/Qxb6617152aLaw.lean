import Derived.Test.Qxb6617152aZRead
import Derived.Test.Qxb6617152aWfAny
import Derived.WalkKit
import Derived.WalkSpells
import Derived.WalkLawsBesides
import Derived.Deep.QuietTactic
import Derived.BigQuiet
import Derived.RegionTactic
import Derived.Deep.RegionHeld3
namespace Go.Proofs.Qxb6617152a
open Go.RowKit
set_option linter.unusedVariables false
/-- A clone, opened. -/
def Open (T : TypeId) (k : IntKind) (w : World) (ad : Option Addr) (n : Nat) (Z : Nat → Int) (w' : World) : Prop :=
  Row k w' ad n Z ∧ (∀ b o, ad = some ⟨b, o, none⟩ → w.heap.size ≤ b ∧ b < w'.heap.size) ∧ (ad = none → n = 0) ∧ Below w.heap.size w w' ∧ ((ad = none ∧ n = 0) ∨ ∃ B cur, ad = some ⟨B, 0, none⟩ ∧ w'.heap[B]? = some (.cells cur T) ∧ cur.size = n)
theorem Cloned.opened {T : TypeId} {k : IntKind} {w w' : World} {n : Nat} {Z : Nat → Int} {e : Ending} (h : Cloned T k w n Z e w') : ∃ ad, e = .returned (.slice ad n n) ∧ Hid (Open T k w ad n Z w') := by
  obtain ⟨ad, he, hc, hb⟩ := h
  refine ⟨ad, he, ?_⟩
  rcases hc with ⟨rfl, rfl, rfl⟩ | ⟨rfl, cur, hcur, hs, hz⟩
  · exact ⟨(fun i hi => by omega), (fun b o e => by cases e), (fun _ => rfl), hb, .inl ⟨rfl, rfl⟩⟩
  · have hlt : w.heap.size < w'.heap.size := by
      by_cases h : w.heap.size < w'.heap.size
      · exact h
      · rw [Array.getElem?_eq_none (by omega)] at hcur; cases hcur
    refine ⟨fun i hi => ⟨_, _, rfl, ?_⟩, fun b o e => ?_, (fun e => by cases e), hb, .inr ⟨_, cur, rfl, hcur, hs⟩⟩
    · rw [cell_of_row _ _ _ _ _ _ hcur, Nat.zero_add]; exact hz i hi
    · simp only [Option.some.injEq, Addr.mk.injEq, and_true] at e
      omega
theorem Row.keep {k : IntKind} {w w' : World} {a : Option Addr} {n R : Nat} {Z : Nat → Int} (h : Row k w a n Z) (hk : ∀ b, b < w.heap.size → b ≠ R → w'.heap[b]? = w.heap[b]?) (hne : ∀ b o, a = some ⟨b, o, none⟩ → b ≠ R) : Row k w' a n Z := fun i hi => by
  obtain ⟨b, off, e, h1⟩ := h i hi
  exact ⟨b, off, e, (World.cell?_of_block (w := w) (hk b (block_lt_of_cell h1) (hne b off e))).trans h1⟩
theorem cut_nil {a : Option Addr} {n l m : Nat} (h : a = none → n = 0) (h1 : l + m ≤ n) (e : cutA a l n = none) : m = 0 := by
  cases a with
  | none => have := h rfl; omega
  | some x =>
    unfold cutA at e
    split at e
    · cases e
    · cases e
theorem wrap_same {x : Int} (h0 : -9223372036854775808 ≤ x) (h1 : x ≤ 9223372036854775807) : IntKind.i64.wrap x = x := by rw [IntKind.wrap_i64]; omega
set_option maxRecDepth 20000 in
set_option maxHeartbeats 3200000 in
theorem law (D g0 pg0 ns0 k0 : Int) (nM nS nF nN cM cS cF cN : Nat) (aM aS aF aN : Option Addr) (M S F N : Nat → Int) (w : World)
    (b1 : -9223372036854775808 ≤ g0) (b2 : g0 ≤ 9223372036854775807) (b3 : -9223372036854775808 ≤ pg0) (b4 : pg0 ≤ 9223372036854775807)
    (h1 : nM ≤ maxLen) (h2 : nS ≤ maxLen) (h3 : nF ≤ maxLen) (h4 : nN ≤ maxLen)
    (hM : Row .u8 w aM nM M) (hS : Row .u8 w aS nS S) (hF : Row .i64 w aF nF F) (hN : Row .i32 w aN nN N) (hSb : ∀ i, i < nS → 0 ≤ S i ∧ S i ≤ 255)
    (zM : aM = none → nM = 0) (zS : aS = none → nS = 0) (zF : aF = none → nF = 0) (zN : aN = none → nN = 0) :
    Calls Try.prog 5 #[.int .i64 D, .int .i64 g0, .int .i64 pg0, .int .i64 ns0, .slice aM nM cM, .slice aS nS cS, .slice aF nF cF, .int .i64 k0, .slice aN nN cN] w fun e w' => e = .returned (.bool true) ∧ Below w.heap.size w w' := by
  have HZ := hide (And.intro zM (And.intro zS (And.intro zF zN)))
  clear zM zS zF zN
  go_enter Try.func5, Try.ntmps5
  go_wp2_with fail
  refine (bytes_any D g0 pg0 ns0 k0 aM aS aF aN nM cM nS cS nF cF nN cN w h1 h2 h3 h4).mono ?_
  rintro e w1 ⟨⟨v, rfl⟩, rfl⟩
  cases v
  · go_wp2; go_ret; exact ⟨rfl, Below.refl _ _⟩
  go_wp2_with fail
  refine (fit_any aM aS aF aN nM cM nS cS nF cF nN cN w1 h1 h2 h3 h4).mono ?_
  rintro e w2 ⟨⟨v, rfl, hv⟩, rfl⟩
  cases v
  · go_wp2; go_ret; exact ⟨rfl, Below.refl _ _⟩
  obtain ⟨f1, f2, f3, f4⟩ := hv rfl
  clear hv h1 h2 h3 h4
  go_wp2_with fail
  refine (wf_any D g0 pg0 ns0 nM nS nF aM aS aF cM cS cF S F w2 f2 f1 f3 b1 b2 b3 b4 hS hSb hF).mono ?_
  rintro e w3 ⟨⟨v, rfl, hv⟩, rfl⟩
  cases v
  · go_wp2; go_ret; exact ⟨rfl, Below.refl _ _⟩
  have hwf := hv rfl
  clear hv
  by_cases hk0 : 0 ≤ k0 ∧ k0 < g0
  rotate_left
  · by_cases hk1 : 0 ≤ k0
    · have : g0 ≤ k0 := by omega
      go_wp2; go_ret; exact ⟨rfl, Below.refl _ _⟩
    · have : k0 < 0 := by omega
      go_wp2; go_ret; exact ⟨rfl, Below.refl _ _⟩
  obtain ⟨k, rfl⟩ : ∃ k : Nat, k0 = k := ⟨k0.toNat, by omega⟩
  obtain ⟨G, pg, rfl, rfl, q1, rfl, rfl, q2, q3, q4, q5, q6⟩ := hwf
  have hkG : k ≤ G := by omega
  have hkG2 : (k : Int) < (G : Int) + 1 := by omega
  have HQ := hide (And.intro q3 (And.intro q4 (And.intro q5 q6)))
  clear hk0 q3 q4 q5 q6 b1 b2
  go_wp2_with fail
  refine (clone8_any aM nM cM M w3 f1 hM HZ.out.1).mono ?_
  intro e w4 he
  obtain ⟨aM', rfl, oM⟩ := he.opened
  clear he
  go_wp2_with fail
  refine (clone8_any aS nS cS S w4 f2 (hS.below oM.out.2.2.2.1) HZ.out.2.1).mono ?_
  intro e w5 he
  obtain ⟨aS', rfl, oS⟩ := he.opened
  clear he
  go_wp2_with fail
  refine (cloneInt_any aF (G + 2) cF F w5 f3 (hF.below (oM.out.2.2.2.1.trans (oS.out.2.2.2.1.mono oM.out.2.2.2.1.size))) HZ.out.2.2.1).mono ?_
  intro e w6 he
  obtain ⟨aF', rfl, oF⟩ := he.opened
  clear he
  go_wp2_with fail
  refine (clone32_any aN nN cN N w6 f4 (hN.below ((oM.out.2.2.2.1.trans (oS.out.2.2.2.1.mono oM.out.2.2.2.1.size)).trans (oF.out.2.2.2.1.mono (Nat.le_trans oM.out.2.2.2.1.size oS.out.2.2.2.1.size)))) HZ.out.2.2.2).mono ?_
  intro e w7 he
  obtain ⟨aN', rfl, oN⟩ := he.opened
  clear he
  -- the numbers of group k
  obtain ⟨P, hP⟩ : ∃ P, P = bnd G pg nS k := ⟨_, rfl⟩
  have hPle : P ≤ nS := by rw [hP]; exact bnd_le q2 (by omega)
  have hQle : bnd G pg nS (k + 1) ≤ nS := bnd_le q2 (by omega)
  have hPQ : P ≤ bnd G pg nS (k + 1) := by
    by_cases h : k < G
    · rw [bnd_succ h, hP]; omega
    · obtain rfl : k = G := by omega
      rw [bnd_last]; exact hPle
  obtain ⟨cnt, hC⟩ : ∃ cnt, P + cnt = bnd G pg nS (k + 1) := ⟨bnd G pg nS (k + 1) - P, by omega⟩
  have hPC : P + cnt ≤ nS := by omega
  have hPm : (k : Int) * (pg : Int) = (P : Int) := by rw [hP]; exact bnd_mul hkG
  have hcc : (bnd G pg nS (k + 1) : Int) - (bnd G pg nS k : Int) = (cnt : Int) := by rw [← hC, ← hP]; omega
  obtain ⟨lo, hlo⟩ : ∃ lo : Nat, sum S P = lo := ⟨(sum S P).toNat, by have := sum_bd hSb P hPle; omega⟩
  obtain ⟨hi, hhi⟩ : ∃ hi : Nat, sum S (P + cnt) = hi := ⟨(sum S (P + cnt)).toNat, by have := sum_bd hSb (P + cnt) hPC; omega⟩
  have hlh : lo ≤ hi := by have := sum_mono hSb P cnt hPC; omega
  have hhn : hi ≤ nM := by
    have h5 := sum_mono hSb (P + cnt) (nS - (P + cnt)) (by omega)
    rw [show P + cnt + (nS - (P + cnt)) = nS by omega, ← HQ.out.2.2.2] at h5
    omega
  obtain ⟨d, hd⟩ : ∃ d, d = hi - lo := ⟨_, rfl⟩
  have hF0 : F k = lo := by rw [HQ.out.2.2.1 k (by omega), ← hP]; exact hlo
  have hF1 : F (k + 1) = hi := by rw [HQ.out.2.2.1 (k + 1) (by omega), ← hC]; exact hhi
  have b7 : Below w6.heap.size w6 w7 := oN.out.2.2.2.1
  have b6 : Below w5.heap.size w5 w6 := oF.out.2.2.2.1
  have b5 : Below w4.heap.size w4 w5 := oS.out.2.2.2.1
  have b56 : Below w5.heap.size w5 w7 := b6.trans (b7.mono b6.size)
  have b47 : Below w4.heap.size w4 w7 := b5.trans (b56.mono b5.size)
  have rM : Row .u8 w7 aM' nM M := oM.out.1.below b47
  have rS : Row .u8 w7 aS' nS S := oS.out.1.below b56
  have rF : Row .i64 w7 aF' (G + 2) F := oF.out.1.below b7
  have BB := hide (And.intro (oM.out.2.2.2.1.trans (b47.mono oM.out.2.2.2.1.size)) (And.intro b5.size (And.intro b6.size b7.size)))
  obtain ⟨bF, fF, eF, c0⟩ := rF k (by omega)
  obtain ⟨bF', fF', eF', c1⟩ := rF (k + 1) (by omega)
  rw [eF] at eF'
  simp only [Option.some.injEq, Addr.mk.injEq, and_true] at eF'
  obtain ⟨rfl, rfl⟩ := eF'
  subst eF
  rw [hF0] at c0
  rw [hF1] at c1
  have RR := hide (And.intro rM (And.intro rS rF))
  have NN := hide (And.intro hP (And.intro hC (And.intro hlo (And.intro hhi (And.intro hF0 hF1)))))
  have hcut := run_cut8 aM' nM nM lo hi .i64 .i64 (lo : Int) (hi : Int) rfl rfl hlh hhn
  rw [← hd] at hcut
  have HCL : Hid (Calls Try.prog 17 #[.slice (cutA aM' lo nM) d (nM - lo)] w7.drew fun e w' => Cloned 5 .u8 w7.drew d (fun i => M (lo + i)) e w') :=
    clone8_any _ _ _ _ w7.drew (by omega) (Row.cut RR.out.1 lo d nM (by omega) (Nat.le_refl _)) (cut_nil oM.out.2.2.1 (by omega))
  have HSB := hide hSb
  have hdn : lo + d ≤ nM := by omega
  have HD := hide hd
  clear hd
  clear b7 b6 b5 b56 b47 rM rS rF hP hC hlo hhi hF0 hF1 hPQ hQle hM hS hF hN hSb
  have i0 : (0 : Int) ≤ (k : Int) := by omega
  have i1 : (k : Int) < (G : Int) + 2 := by omega
  have i2 : (0 : Int) ≤ (k : Int) + 1 := by omega
  have i3 : (k : Int) + 1 < (G : Int) + 2 := by omega
  have i4 : (0 : Int) ≤ (k : Int) + 1 ∧ (k : Int) + 1 < (G : Int) + 2 := ⟨i2, i3⟩
  have i5 : IntKind.i64.wrap ((k : Int) + 1) = (k : Int) + 1 := wrap_same (by omega) (by omega)
  have i6 : ((k : Int) + 1).toNat = k + 1 := by omega
  have hlF : bF < w7.heap.size := block_lt_of_cell c0
  go_wp2_with fail
  go_region_held3 (fun W => W.cell? ⟨bF, fF + k, none⟩ = some (.int .i64 lo) ∧ W.cell? ⟨bF, fF + (k + 1), none⟩ = some (.int .i64 hi)) (go_keep)
    ((go_at_call 17; refine HCL.out.mono ?_; intro e w8 he; obtain ⟨aW, rfl, oW⟩ := he.opened; clear he; have C0 : w8.cell? ⟨bF, fF + k, none⟩ = some (.int .i64 lo) := (oW.out.2.2.2.1.cell hlF).trans c0; have C1 : w8.cell? ⟨bF, fF + (k + 1), none⟩ = some (.int .i64 hi) := (oW.out.2.2.2.1.cell hlF).trans c1))
  go_wp2_with fail
  refine (count_any G pg nS k _ hkG (by omega) f2 q1 q2).mono ?_
  rintro e w9 ⟨rfl, rfl⟩
  rw [hcc]
  go_wp2_with fail
  refine (devs_any D G k _ hkG (by omega) HQ.out.1 HQ.out.2.1).mono ?_
  rintro e w9 ⟨rfl, rfl⟩
  go_wp2_with fail
  have b79 : Below w7.heap.size w7 w9 := by have h := oW.out.2.2.2.1; exact ⟨h.os, h.tape, h.output, h.size, h.block⟩
  have s79 := b79.size
  obtain ⟨b37, s45, s56, s67⟩ := BB.out
  have s37 := b37.size
  have hz := zread_any D G pg nS nM k P cnt nN lo hi aM' aS' (some ⟨bF, fF, none⟩) aN' S F w9 hkG (by omega) f2 f1 f4 q1 q2 HQ.out.1 HQ.out.2.1 NN.out.1 NN.out.2.1 hPC hlh hhn HSB.out NN.out.2.2.2.2.1 NN.out.2.2.2.2.2
    (RR.out.2.1.below b79) (RR.out.2.2.below b79)
    (by
      rcases oN.out.2.2.2.2 with h | ⟨B, cur, e, hc, hs⟩
      · exact .inl h
      · exact .inr ⟨B, cur, e, (b79.block B (oN.out.2.1 B 0 e).2).trans hc, hs⟩)
    (fun b o e => by have := (oS.out.2.1 b o e).2; omega) (fun b o e => by have := (oF.out.2.1 b o e).2; omega) (fun b o e => by have := (oN.out.2.1 b o e).2; omega)
    (fun B o e => by
      have h9 := (oN.out.2.1 B o e).1
      exact ⟨fun b o' e' => by have := (oS.out.2.1 b o' e').2; omega, fun b o' e' => by have := (oF.out.2.1 b o' e').2; omega⟩)
  refine hz.mono ?_
  clear hz
  intro e w10 hq
  unfold ZPost at hq
  rw [← HD.out] at hq
  obtain ⟨R, c', rfl, hR, rR, hb0, hkeep⟩ := hq
  have hne : w6.heap.size ≤ R ∧ (w9.heap.size ≤ R ∨ R < w7.heap.size) := by
    rcases hR with h | h
    · exact ⟨by omega, .inl h⟩
    · have := oN.out.2.1 R 0 h
      exact ⟨by omega, .inr (by omega)⟩
  have rM : Row .u8 w10 aM' nM M := (RR.out.1.below b79).keep hkeep (fun b o e => by have := (oM.out.2.1 b o e).2; omega)
  have rS : Row .u8 w10 aS' nS S := (RR.out.2.1.below b79).keep hkeep (fun b o e => by have := (oS.out.2.1 b o e).2; omega)
  have rF : Row .i64 w10 (some ⟨bF, fF, none⟩) (G + 2) F := (RR.out.2.2.below b79).keep hkeep (fun b o e => by have := (oF.out.2.1 b o e).2; omega)
  have rW : Row .u8 w10 aW d (fun i => M (lo + i)) := oW.out.1.keep hkeep (fun b o e => by have h9 := oW.out.2.1 b o e; have h8 : w7.drew.heap.size = w7.heap.size := rfl; omega)
  have b310 : Below w3.heap.size w3 w10 := by
    have b39 := b37.trans (b79.mono s37)
    have b09 := (b39.mono (Nat.zero_le _)).trans hb0
    exact ⟨b09.os, b09.tape, b09.output, b09.size, fun b hb => (hkeep b (by have := oM.out.2.2.2.1.size; omega) (by have := oM.out.2.2.2.1.size; omega)).trans (b39.block b hb)⟩
  have RX := hide (And.intro rM (And.intro rS (And.intro rF (And.intro rW (And.intro rR b310)))))
  clear rM rS rF rW rR b310 hb0 hkeep hne hR b79 b37 oM oS oF oN oW RR HCL BB C0 C1 c0 c1 hcut s79 s45 s56 s67 s37 hcc hlF HZ i4 i5 i6 i1 i2 i3
  go_wp2_with fail
  refine (equal_any _ _ d _ _ (fun i => M (lo + i)) w10 (by omega) (RX.out.1.cut lo d nM hdn (Nat.le_refl _)) RX.out.2.2.2.1).mono ?_
  rintro e w11 ⟨rfl, hb11⟩
  have rR := RX.out.2.2.2.2.1.below hb11
  have RY := hide (And.intro (RX.out.1.below hb11) (And.intro (RX.out.2.1.below hb11) (And.intro (RX.out.2.2.1.below hb11) (And.intro rR (RX.out.2.2.2.2.2.trans (hb11.mono RX.out.2.2.2.2.2.size))))))
  obtain ⟨R', o', e', r0⟩ := rR 0 (by omega)
  simp only [Option.some.injEq, Addr.mk.injEq, and_true] at e'
  obtain ⟨rfl, rfl⟩ := e'
  obtain ⟨R', o', e', r1⟩ := rR cnt (by omega)
  simp only [Option.some.injEq, Addr.mk.injEq, and_true] at e'
  obtain ⟨rfl, rfl⟩ := e'
  simp only [Nat.add_zero, Int.sub_self] at r0
  have hT : sum S (P + cnt) - sum S P = (d : Int) := by rw [NN.out.2.2.1, NN.out.2.2.2.1]; have := HD.out; omega
  simp only [hT, Nat.zero_add] at r1
  clear rR hT RX hb11
  have hd6 : (d : Int) ≤ 65536 := by omega
  have hcn : (cnt : Int) < (cnt : Int) + 1 := by omega
  have hcn6 : (cnt : Int) ≤ 65536 := by omega
  go_wp2_with fail
  go_loopw [26] (fun y wr => ∃ (j m : Nat), j ≤ cnt ∧ y = .int .i64 j ∧ wr = w11.drewN m) (fun y _ => cnt - (intOf y).toNat)
  case atStart => exact ⟨0, 0, by omega, rfl, (World.drewN_zero _).symm⟩
  case round =>
    obtain ⟨j, m, hj, rfl, rfl⟩ := hrel
    by_cases hlt : j < cnt
    · clear r0 r1
      obtain ⟨R', o', e', r0⟩ := RY.out.2.2.2.1 j (by omega)
      simp only [Option.some.injEq, Addr.mk.injEq, and_true] at e'
      obtain ⟨rfl, rfl⟩ := e'
      obtain ⟨R', o', e', r1⟩ := RY.out.2.2.2.1 (j + 1) (by omega)
      simp only [Option.some.injEq, Addr.mk.injEq, and_true] at e'
      obtain ⟨rfl, rfl⟩ := e'
      obtain ⟨t0, ht0⟩ : ∃ t, t = sum S (P + j) - sum S P := ⟨_, rfl⟩
      obtain ⟨t1, ht1⟩ : ∃ t, t = sum S (P + (j + 1)) - sum S P := ⟨_, rfl⟩
      simp only [← ht0, Nat.zero_add] at r0
      simp only [← ht1, Nat.zero_add] at r1
      have hle : t0 ≤ t1 := by
        have h9 : sum S (P + (j + 1)) = sum S (P + j) + S (P + j) := rfl
        have := HSB.out (P + j) (by omega)
        omega
      clear ht0 ht1
      have j1 : (j : Int) < (cnt : Int) := by omega
      have j2 : (j : Int) < (cnt : Int) + 1 := by omega
      have j3 : (j : Int) + 1 < (cnt : Int) + 1 := by omega
      go_wp2_with fail
      go_quiet (fail)
      go_wp2_with fail
      go_roundw
      case rel => exact ⟨j + 1, _, by omega, by go_num, rfl⟩
      case measure => simp [intOf]; omega
    · obtain rfl : cnt = j := by omega
      clear r0 r1
      go_wp2_with fail
      go_loopw [27, 28, 29] (fun y _ _ wr => ∃ (j : Nat), j ≤ cnt ∧ y = .int .i64 j ∧ Below w11.heap.size w11 wr) (fun y _ _ _ => cnt - (intOf y).toNat)
      case atStart => exact ⟨0, by omega, rfl, drewN_below (Below.refl _ _) _⟩
      case round =>
        obtain ⟨j, hj2, rfl, hbr⟩ := hrel
        by_cases hlt : j < cnt
        · have h9 : sum S (P + (j + 1)) = sum S (P + j) + S (P + j) := rfl
          obtain ⟨hs0, hs1⟩ := HSB.out (P + j) (by omega)
          have m1 := sum_mono HSB.out P j (by omega)
          have m2 := sum_mono HSB.out (P + (j + 1)) (cnt - (j + 1)) (by omega)
          rw [show P + (j + 1) + (cnt - (j + 1)) = P + cnt by omega, NN.out.2.2.2.1] at m2
          have n1 := NN.out.2.2.1
          have n3 := HD.out
          obtain ⟨s, hs⟩ : ∃ s : Nat, S (P + j) = s := ⟨(S (P + j)).toNat, by omega⟩
          obtain ⟨a, ha⟩ : ∃ a : Nat, sum S (P + j) - sum S P = a := ⟨(sum S (P + j) - sum S P).toNat, by omega⟩
          have hb : sum S (P + (j + 1)) - sum S P = ((a + s : Nat) : Int) := by omega
          have had : a + s ≤ d := by omega
          have hA : sum S (P + j) = ((lo + a : Nat) : Int) := by omega
          have HS2 : Hid ((S (P + j)).toNat = s) := by unfold Hid; omega
          have C23 : Hid (Calls Try.prog 23 #[.int .i64 (dvs D G k), .slice (cutA aM' lo nM) d (nM - lo), .slice (some ⟨R, 0, none⟩) (cnt + 1) c', .int .i64 j] wr fun e w' => e = .returned (.slice (cutA (cutA aM' lo nM) a (nM - lo)) s (nM - lo - a)) ∧ Below wr.heap.size wr w') := by
            have h := gdev_any (dvs D G k) (cutA aM' lo nM) (some ⟨R, 0, none⟩) d (nM - lo) (cnt + 1) c' j a (a + s) _ wr (by omega) (by omega) (RY.out.2.2.2.1.below hbr) ha hb (by omega) (by omega)
            rw [Nat.add_sub_cancel_left] at h; exact h
          have C24 : Hid (∀ W : World, Below wr.heap.size wr W → Calls Try.prog 24 #[.int .i64 D, .int .i64 ((G : Int) + 1), .int .i64 pg, .int .i64 nS, .slice aM' nM nM, .slice aS' nS nS, .slice (some ⟨bF, fF, none⟩) (G + 2) (G + 2), .int .i64 ((P : Int) + (j : Int))] W fun e w' => e = .returned (.slice (cutA aM' (lo + a) nM) s (nM - (lo + a))) ∧ Below W.heap.size W w') := fun W hW => by
            have hbW : Below w11.heap.size w11 W := hbr.trans (hW.mono hbr.size)
            have h := pdev_any D G pg nS nM k P cnt j lo aM' aS' (some ⟨bF, fF, none⟩) S F (lo + a) W hkG (by omega) f2 f1 q1 (by omega) q2 NN.out.1 NN.out.2.1 hPC hlt HSB.out (NN.out.2.2.2.2.1.trans n1.symm) hA (by omega) (RY.out.2.1.below hbW) (RY.out.2.2.1.below hbW)
            rw [HS2.out] at h; exact h
          have C22 : Hid (∀ W : World, Below wr.heap.size wr W → Calls Try.prog 22 #[.slice (cutA (cutA aM' lo nM) a (nM - lo)) s (nM - lo - a), .slice (cutA aM' (lo + a) nM) s (nM - (lo + a))] W fun e w' => e = .returned (.bool true) ∧ Below W.heap.size W w') := fun W hW => by
            have hbW : Below w11.heap.size w11 W := hbr.trans (hW.mono hbr.size)
            have rM := RY.out.1.below hbW
            have x1 := (rM.cut lo d nM hdn (Nat.le_refl _)).cut a s (nM - lo) had (by omega)
            have x2 := rM.cut (lo + a) s nM (by omega) (Nat.le_refl _)
            have ef : (fun i => M (lo + a + i)) = (fun i => M (lo + (a + i))) := by funext i; rw [Nat.add_assoc]
            rw [ef] at x2
            exact equal_any _ _ s _ _ _ W (by omega) x1 x2
          have HB := hide hbr
          have j1 : (j : Int) < (cnt : Int) := by omega
          clear h9 hs0 hs1 m1 m2 n1 n3 hs ha hb had hA hbr
          go_wp2_with fail
          refine C23.out.mono ?_
          rintro e v1 ⟨rfl, hv1⟩
          go_wp2_with fail
          refine (C24.out v1 hv1).mono ?_
          rintro e v2 ⟨rfl, hv2⟩
          have hv12 := hv1.trans (hv2.mono hv1.size)
          go_wp2_with fail
          refine (C22.out v2 hv12).mono ?_
          rintro e v3 ⟨rfl, hv3⟩
          have HV := hide (hv12.trans (hv3.mono hv12.size))
          clear hv1 hv2 hv12 hv3 C22 C23 C24
          go_wp2_with fail
          go_roundw
          case rel => exact ⟨j + 1, by omega, by go_num, HB.out.trans (HV.out.mono HB.out.size)⟩
          case measure => simp [intOf]; omega
        · obtain rfl : cnt = j := by omega
          have HB := hide hbr
          clear hbr
          go_wp2
          go_ret
          exact ⟨rfl, RY.out.2.2.2.2.trans (HB.out.mono RY.out.2.2.2.2.size)⟩
end Go.Proofs.Qxb6617152a
