import Derived.Test.Qxb6617005aPlain
import Derived.Test.Qxb6617005aLawB
import Derived.WalkKit
import Derived.WalkSpells
import Derived.WalkLawsBesides
import Derived.Deep.QuietTactic
import Derived.BigQuiet
namespace Go.Proofs.Qxb6617005a
open Go.RowKit
set_option linter.unusedVariables false
theorem stood_upd {A R : Nat → Int} {n i : Nat} {ok : Bool} {rev r : Int} (hall : AllBy A R n rev) (hr : 0 < rev) (hc : Cut A n (r + 1) i) (hok : ok = true ↔ Cur R n) : Stood (upd R n ok rev) r i ↔ (Stood R r i ∧ r < rev) := by
  obtain ⟨c1, c2, c3⟩ := hc
  unfold Stood upd
  by_cases hi : i = 0
  · subst hi; exact ⟨fun h => absurd rfl h.1, fun h => absurd rfl h.1.1⟩
  · have hR := (hall (i - 1) (by omega)).2
    by_cases hcase : ok = true ∧ i - 1 + 1 = n
    · rw [if_pos hcase]
      have hcur := hok.1 hcase.1
      have e : n - 1 = i - 1 := by omega
      have h0 := hcur.2
      rw [e] at h0
      exact ⟨fun h => ⟨⟨hi, .inl h0⟩, by omega⟩, fun h => ⟨hi, .inr h.2⟩⟩
    · rw [if_neg hcase]
      refine ⟨fun h => ⟨h, ?_⟩, fun h => h.1⟩
      by_cases hin : i < n
      · have := c3 i (Nat.le_refl _) hin; have := (hall i hin).1; omega
      · have e : n - 1 = i - 1 := by omega
        have hnc : ¬ Cur R n := fun h => hcase ⟨hok.2 h, by omega⟩
        have : ¬ R (i - 1) = 0 := fun h0 => hnc ⟨by omega, by rw [e]; exact h0⟩
        have := h.2
        omega

theorem ret_boolA {a b : Bool} (h : a = b) : Ending.returned (.bool a) = .returned (.bool b) := by rw [h]
set_option maxHeartbeats 1600000 in
theorem law3 (A R : Nat → Int) (ad : Option Addr) (n c : Nat) (rev r : Int) (w : World) (hn : n ≤ maxLen) (h : SP w ad n A R) (hr0 : 0 ≤ rev) (hr1 : rev ≤ 18446744073709551615) (hq0 : 0 ≤ r) (hq1 : r ≤ 18446744073709551615) :
    Calls Try.prog 3 #[.slice ad n c, .int .u64 rev, .int .u64 r] w fun e w' => e = .returned (.bool true) ∧ Below w.heap.size w w' := by
  have HB := hide (bytes11 ad n c rev r w hn)
  by_cases hbig : 65536 < n
  · unfold maxLen at hn
    clear h
    go_enter Try.func3, Try.ntmps3
    go_wp2_with (go_at_call 11; refine HB.out.mono ?_; rintro e w' ⟨⟨v, rfl⟩, rfl⟩; cases v)
    all_goals (go_ret; exact ⟨rfl, Below.refl _ _⟩)
  · have hn2 : n ≤ 65536 := by omega
    clear hn hbig
    by_cases hrz : rev = 0 ∨ rev = 18446744073709551615 ∨ r = 18446744073709551615
    · clear h
      rcases hrz with rfl | rfl | rfl
      all_goals
        go_enter Try.func3, Try.ntmps3
        go_wp2_with (go_at_call 11; refine HB.out.mono ?_; rintro e w' ⟨⟨v, rfl⟩, rfl⟩; cases v)
        all_goals (go_ret; exact ⟨rfl, Below.refl _ _⟩)
    · have hz : (rev == 0) = false := by rw [beq_eq_false_iff_ne]; omega
      have hz2 : (rev == 18446744073709551615) = false := by rw [beq_eq_false_iff_ne]; omega
      have hz3 : (r == 18446744073709551615) = false := by rw [beq_eq_false_iff_ne]; omega
      have HZ : Hid (0 < rev ∧ rev < 18446744073709551615 ∧ 0 ≤ r ∧ r < 18446744073709551615) := by unfold Hid; omega
      clear hrz hr0 hr1 hq0 hq1
      have HS := hide (sorted_any A R ad n c w hn2 h)
      have HSP := hide h
      clear h
      go_enter Try.func3, Try.ntmps3
      go_wp2_with (first | (go_at_call 11; refine HB.out.mono ?_; rintro e w0 ⟨⟨v, rfl⟩, rfl⟩; cases v) | (go_at_call 12; refine HS.out.mono ?_; rintro e w1 ⟨⟨v, rfl, hv⟩, hb1⟩; cases v))
      · go_ret; exact ⟨rfl, Below.refl _ _⟩
      · go_ret; exact ⟨rfl, hb1⟩
      · have HM := hide (hv (by trivial)).mono
        have HB1 := hide hb1
        have HSP1 := hide (HSP.out.below hb1)
        clear hv hb1 HB HS
        refine (allBy_any A R ad n c rev w1 hn2 HSP1.out).mono ?_
        rintro e w1 ⟨⟨v, rfl, hall⟩, rfl⟩
        cases v
        · go_wp2_with fail
          go_ret; exact ⟨rfl, HB1.out⟩
        · have HALL := hide (hall (by trivial))
          clear hall
          go_wp2_with fail
          -- h := zzBuild(spans), behind 'zero'
          have HBz : Hid (Below w0.heap.size w0 (w1.alloc (.cells #[.int .u8 0, .bool false, .nilIface] 31))) := HB1.out.alloc HB1.out.size _
          refine (build_any A R ad n c _ hn2 (HSP.out.below HBz.out)).mono ?_
          rintro e w2 ⟨rfl, hown1, hvs1, hb2⟩
          have HB2 := hide (HBz.out.trans (hb2.mono HBz.out.size))
          have hs2 : w1.heap.size + 2 ≤ w2.heap.size := by
            obtain ⟨cur, hc, _⟩ := hown1
            have : w1.heap.size + 1 < w2.heap.size := by
              apply Decidable.byContradiction; intro hh
              simp only [World.size_alloc] at hc
              rw [Array.getElem?_eq_none (by omega)] at hc; cases hc
            omega
          have z0 : w2.cell? ⟨w1.heap.size, 0, none⟩ = some (.int .u8 0) := by rw [hb2.cell (by simp)]; simp
          have z1 : w2.cell? ⟨w1.heap.size, 1, none⟩ = some (.bool false) := by rw [hb2.cell (by simp)]; simp
          have z2 : w2.cell? ⟨w1.heap.size, 2, none⟩ = some .nilIface := by rw [hb2.cell (by simp)]; simp
          replace hvs1 : VS w2 (some ⟨w1.heap.size + 1, 0, none⟩) n A R := by simpa using hvs1
          replace hown1 : Own w2 (w1.heap.size + 1) n := by simpa [Own] using hown1
          have HV2 := hide hvs1
          have HO2 := hide hown1
          have HSP2 := hide (HSP.out.below HB2.out)
          have hBw0 : w0.heap.size ≤ w1.heap.size := HB1.out.size
          clear hown1 hvs1 hb2 HBz
          go_wp2_with fail
          -- now := zzStandsAt(spans, rev)
          refine (stands_any A R ad n c rev w2 hn2 HSP2.out).mono ?_
          rintro e w2 ⟨⟨now, rfl, hnow⟩, rfl⟩
          have HNOW : Hid (TT now (Cur R n)) := hnow.trans (stands_cur HALL.out)
          clear hnow
          go_wp2_with fail
          -- v, ok := h.Remove(rev)
          refine (remove_any A R (w1.heap.size + 1) n n rev w2 hn2 HV2.out HO2.out).mono ?_
          rintro e w3 ⟨ok, rfl, hok, hvs3, hown3, hk3⟩
          have HOK : Hid (TT ok (Cur R n)) := hok
          obtain rfl : ok = now := bool_eq hok HNOW.out
          have hs3 := hk3.1.size
          have HB3 : Hid (Below w0.heap.size w0 w3) := HB2.out.trans (hk3.below (by omega) (by omega))
          replace z0 := (hk3.cell (p := ⟨w1.heap.size, 0, none⟩) (by show w1.heap.size < w2.heap.size; omega) (by show w1.heap.size ≠ w1.heap.size + 1; omega)).trans z0
          replace z1 := (hk3.cell (p := ⟨w1.heap.size, 1, none⟩) (by show w1.heap.size < w2.heap.size; omega) (by show w1.heap.size ≠ w1.heap.size + 1; omega)).trans z1
          replace z2 := (hk3.cell (p := ⟨w1.heap.size, 2, none⟩) (by show w1.heap.size < w2.heap.size; omega) (by show w1.heap.size ≠ w1.heap.size + 1; omega)).trans z2
          have hlz : w1.heap.size < w3.heap.size := by omega
          have HV3 := hide (fun X : Obj => hvs3.below ((Below.refl _ w3).alloc (Nat.le_refl _) X))
          have HO3 := hide (fun X : Obj => hown3.alloc X)
          have HSP3 := hide (fun X : Obj => HSP.out.below (HB3.out.alloc HB3.out.size X))
          clear hk3 hvs3 hown3 hok HV2 HO2 HSP2 HNOW HSP1
          have hneq := neq_zero
          go_wp2_with fail
          have HVW := hide (HV3.out (.cells #[.int .u8 0, .bool false, .nilIface] 31))
          have HOW := hide (HO3.out (.cells #[.int .u8 0, .bool false, .nilIface] 31))
          have HSPW := hide (HSP3.out (.cells #[.int .u8 0, .bool false, .nilIface] 31))
          have HBW : Hid (Below w0.heap.size w0 (w3.alloc (.cells #[.int .u8 0, .bool false, .nilIface] 31))) := HB3.out.alloc HB3.out.size _
          have HZW : Hid ((w3.alloc (.cells #[.int .u8 0, .bool false, .nilIface] 31)).cell? ⟨w1.heap.size, 0, none⟩ = some (.int .u8 0) ∧ (w3.alloc (.cells #[.int .u8 0, .bool false, .nilIface] 31)).cell? ⟨w1.heap.size, 1, none⟩ = some (.bool false) ∧ (w3.alloc (.cells #[.int .u8 0, .bool false, .nilIface] 31)).cell? ⟨w1.heap.size, 2, none⟩ = some .nilIface) := by
            rw [World.cell?_alloc_past _ _ _ hlz, World.cell?_alloc_past _ _ _ hlz, World.cell?_alloc_past _ _ _ hlz]; exact ⟨z0, z1, z2⟩
          have hsW : w1.heap.size + 2 ≤ (w3.alloc (.cells #[.int .u8 0, .bool false, .nilIface] 31)).heap.size := by simp; omega
          clear HV3 HO3 HSP3 z0 z1 z2 hneq HB3
          generalize w3.alloc (.cells #[.int .u8 0, .bool false, .nilIface] 31) = W at HVW HOW HSPW HBW HZW hsW ⊢
          go_loopw [13] (fun i wr => ∃ (k : Nat), k ≤ n ∧ i = .int .i64 k ∧ Hid (Like W wr)) (fun i _ => n - (intOf i).toNat)
          case atStart => exact ⟨0, by omega, rfl, ⟨rfl, rfl, rfl, rfl⟩⟩
          case round =>
            obtain ⟨k, hk, rfl, hlk⟩ := hrel
            by_cases hlt : k < n
            · obtain ⟨b, off, rfl, h0, h1⟩ := HSPW.out k hlt
              have g0 : wr.cell? ⟨b, off + k * 2, none⟩ = some (.int .u64 (A k)) := (hlk.out.cell _).trans h0
              have g1 : wr.cell? ⟨b, off + k * 2 + 1, none⟩ = some (.int .u64 (R k)) := (hlk.out.cell _).trans h1
              obtain ⟨B', o', e', hs⟩ := HVW.out k hlt
              simp only [Option.some.injEq, Addr.mk.injEq, and_true] at e'
              obtain ⟨rfl, rfl⟩ := e'
              replace hs := hs.heap hlk.out.1
              have HA : Hid (∀ V : World, V.heap = wr.heap → Calls Try.prog 17 #[.slice (some ⟨w1.heap.size + 1, 0, none⟩) n n, .int .i64 k] V fun e w' => e = .returned (.int .u64 (A k)) ∧ w' = V) := fun V e => added_any _ 0 k n n _ _ _ hn2 hlt (hs.heap e)
              have HR : Hid (∀ V : World, V.heap = wr.heap → Calls Try.prog 18 #[.slice (some ⟨w1.heap.size + 1, 0, none⟩) n n, .int .i64 k] V fun e w' => e = .returned (.int .u64 (upd R n ok rev k)) ∧ w' = V) := fun V e => removed_any _ 0 k n n _ _ _ hn2 hlt (hs.heap e)
              have hI : (k : Int) < n := by omega
              clear h0 h1 hs
              have fin : ∀ x : Int, x = upd R n ok rev k → Hid (∀ V : World, V.heap = wr.heap → Calls Try.prog 18 #[.slice (some ⟨w1.heap.size + 1, 0, none⟩) n n, .int .i64 k] V fun e w' => e = .returned (.int .u64 x) ∧ w' = V) := fun x e => by rw [e]; exact HR
              by_cases hlast : ok = true ∧ k + 1 = n
              · obtain ⟨rfl, hkn⟩ := hlast
                have HR2 := fin rev (by unfold upd; rw [if_pos ⟨rfl, hkn⟩])
                have hd : ((k : Int) == (n : Int) - 1) = true := by rw [beq_iff_eq]; omega
                clear fin HR hkn
                go_wp2_with fail
                go_quiet ((first | (go_at_call 17; exact Calls.quiet_of_same (HA.out _ rfl)) | (go_at_call 18; exact Calls.quiet_of_same (HR2.out _ rfl))))
                go_wp2_with fail
                go_roundw
                case rel => exact ⟨k + 1, by omega, by go_num, hlk.out.drewN _⟩
                case measure => simp [intOf]; omega
              · have HR2 := fin (R k) (by unfold upd; rw [if_neg hlast])
                have hd : ok = true → ((k : Int) == (n : Int) - 1) = false := fun h => by rw [beq_eq_false_iff_ne]; have h3 : ¬ k + 1 = n := fun h2 => hlast ⟨h, h2⟩; omega
                clear fin HR hlast
                cases ok
                · clear hd
                  go_wp2_with fail
                  go_quiet ((first | (go_at_call 17; exact Calls.quiet_of_same (HA.out _ rfl)) | (go_at_call 18; exact Calls.quiet_of_same (HR2.out _ rfl))))
                  go_wp2_with fail
                  go_roundw
                  case rel => exact ⟨k + 1, by omega, by go_num, hlk.out.drewN _⟩
                  case measure => simp [intOf]; omega
                · replace hd := hd rfl
                  go_wp2_with fail
                  go_quiet ((first | (go_at_call 17; exact Calls.quiet_of_same (HA.out _ rfl)) | (go_at_call 18; exact Calls.quiet_of_same (HR2.out _ rfl))))
                  go_wp2_with fail
                  go_roundw
                  case rel => exact ⟨k + 1, by omega, by go_num, hlk.out.drewN _⟩
                  case measure => simp [intOf]; omega
            · have HNC := hide (upd_not_cur HOK.out HZ.out.1)
              have hlkb : Below W.heap.size W wr := hlk.out.below
              have HVr := hide (HVW.out.below hlkb)
              have HOr : Hid (Own wr (w1.heap.size + 1) n) := by unfold Hid Own; rw [hlk.out.1]; exact HOW.out
              have HBr := hide (HBW.out.trans (hlkb.mono HBW.out.size))
              have hsr : w1.heap.size + 2 ≤ wr.heap.size := by rw [hlk.out.1]; exact hsW
              have HZr : Hid (wr.cell? ⟨w1.heap.size, 0, none⟩ = some (.int .u8 0) ∧ wr.cell? ⟨w1.heap.size, 1, none⟩ = some (.bool false) ∧ wr.cell? ⟨w1.heap.size, 2, none⟩ = some .nilIface) := by
                unfold Hid; rw [hlk.out.cell, hlk.out.cell, hlk.out.cell]; exact HZW.out
              clear hlkb HVW HOW HSPW HBW HZW hlk hsW
              go_wp2_with fail
              -- v2, ok2 := h.Remove(rev)
              refine (remove_any A (upd R n ok rev) (w1.heap.size + 1) n n rev wr hn2 HVr.out HOr.out).mono ?_
              rintro e w4 ⟨ok2, rfl, hok2, hvs4, hown4, hk4⟩
              obtain rfl : ok2 = false := Bool.eq_false_iff.2 fun h => HNC.out (hok2.1 h)
              rw [upd_false] at hvs4
              have hs4 := hk4.1.size
              have HB4 : Hid (Below w0.heap.size w0 w4) := HBr.out.trans (hk4.below (by omega) (by omega))
              have z0 := (hk4.cell (p := ⟨w1.heap.size, 0, none⟩) (by show w1.heap.size < wr.heap.size; omega) (by show w1.heap.size ≠ w1.heap.size + 1; omega)).trans HZr.out.1
              have z1 := (hk4.cell (p := ⟨w1.heap.size, 1, none⟩) (by show w1.heap.size < wr.heap.size; omega) (by show w1.heap.size ≠ w1.heap.size + 1; omega)).trans HZr.out.2.1
              have z2 := (hk4.cell (p := ⟨w1.heap.size, 2, none⟩) (by show w1.heap.size < wr.heap.size; omega) (by show w1.heap.size ≠ w1.heap.size + 1; omega)).trans HZr.out.2.2
              have hlz4 : w1.heap.size < w4.heap.size := by omega
              have HV4 := hide (fun X : Obj => hvs4.below ((Below.refl _ w4).alloc (Nat.le_refl _) X))
              clear hok2 hvs4 hown4 hk4 HVr HOr HZr HBr HNC
              have hneq := neq_zero
              go_wp2_with fail
              -- av, aok := h.At(r)
              refine (at_any A (upd R n ok rev) (some ⟨w1.heap.size + 1, 0, none⟩) n n r _ hn2 (HV4.out _) HM.out HZ.out.2.2.1 HZ.out.2.2.2).mono ?_
              rintro e w5 ⟨⟨i1, aok, rfl, hc1, haok⟩, hb5⟩
              have HB45 : Hid (Below w4.heap.size w4 w5) := ((Below.refl _ _).alloc (Nat.le_refl _) _).trans (hb5.mono (by simp))
              have HB5 : Hid (Below w0.heap.size w0 w5) := HB4.out.trans (HB45.out.mono HB4.out.size)
              have hs5 := HB45.out.size
              replace z0 := (HB45.out.cell (p := ⟨w1.heap.size, 0, none⟩) hlz4).trans z0
              replace z1 := (HB45.out.cell (p := ⟨w1.heap.size, 1, none⟩) hlz4).trans z1
              replace z2 := (HB45.out.cell (p := ⟨w1.heap.size, 2, none⟩) hlz4).trans z2
              have hlz5 : w1.heap.size < w5.heap.size := by omega
              have HC1 := hide hc1
              have HAOK : Hid (TT aok (Stood (upd R n ok rev) r i1)) := haok
              have HSP5 := hide (fun X : Obj => HSP.out.below (HB5.out.alloc HB5.out.size X))
              clear hb5 HV4 hc1 haok hneq hs4 hs5 hlz4 hsr
              unfold zeroV
              have heq := eq_zero
              go_wp2_with fail
              refine (stands_any A R ad _ c r _ hn2 (HSP5.out _)).mono ?_
              rintro e w9 ⟨⟨st, rfl, hst⟩, rfl⟩
              have hfin : aok = (st && decide (r < rev)) := bool_eq (HAOK.out.trans (stood_upd HALL.out HZ.out.1 HC1.out HOK.out)) (by
                rw [Bool.and_eq_true, decide_eq_true_eq, hst, stands_cut HC1.out])
              clear hst
              have HFIN := hide hfin
              clear hfin
              by_cases hrr : r < rev
              · obtain rfl : aok = st := by rw [HFIN.out]; simp [hrr]
                cases aok
                all_goals
                  go_wp2_with fail
                  go_ret
                  exact ⟨rfl, HB5.out.alloc HB5.out.size _⟩
              · obtain rfl : aok = false := by rw [HFIN.out]; simp [hrr]
                cases st
                all_goals
                  go_wp2_with fail
                  go_ret
                  exact ⟨by first | rfl | exact ret_boolA (a := !decide (r < rev)) (by simp; omega), HB5.out.alloc HB5.out.size _⟩
end Go.Proofs.Qxb6617005a
