import Derived.Test.Qxb6617005aKeeps
import Derived.WalkKit
import Derived.WalkSpells
import Derived.WalkLawsBesides
import Derived.Deep.QuietTactic
import Derived.BigQuiet
import Derived.Deep.RegionHeld3
namespace Go.Proofs.Qxb6617005a
open Go.RowKit
set_option linter.unusedVariables false
theorem eq_zero (w : World) : (binOp .eql 31 (.agg #[.int .u8 0, .bool false, .nilIface]) (.agg #[.int .u8 0, .bool false, .nilIface])).run Try.prog w = .ok (.bool true) w := by kernel_rfl
theorem neq_zero (w : World) : (binOp .neq 31 (.agg #[.int .u8 0, .bool false, .nilIface]) (.agg #[.int .u8 0, .bool false, .nilIface])).run Try.prog w = .ok (.bool false) w := by kernel_rfl
theorem cut_all {A R : Nat → Int} {n i : Nat} {rev : Int} (h : AllBy A R n rev) (hc : Cut A n (rev + 1) i) : i = n := by
  apply Decidable.byContradiction; intro hne
  have h1 := hc.1
  have := hc.2.2 i (Nat.le_refl _) (by omega)
  have := (h i (by omega)).1
  omega
theorem stands_cur {A R : Nat → Int} {n : Nat} {rev : Int} (h : AllBy A R n rev) : StandsAt A R n rev ↔ Cur R n := by
  constructor
  · rintro ⟨i, hi, h1, h2, h3⟩
    have hin : i + 1 = n := by
      apply Decidable.byContradiction; intro hne
      have := h2 (by omega); have := (h (i + 1) (by omega)).1; omega
    subst hin
    refine ⟨by omega, ?_⟩
    have := (h i (by omega)).2
    simp only [Nat.add_sub_cancel]; omega
  · rintro ⟨h1, h2⟩
    exact ⟨n - 1, by omega, (h _ (by omega)).1, fun h => by omega, .inl h2⟩
theorem gone_all {A R : Nat → Int} {n e0 : Nat} {rev : Int} (h : AllBy A R n rev) (hg : Gone A R n rev e0) : (Cur R n ∧ e0 + 1 = n) ∨ (¬ Cur R n ∧ e0 = n) := by
  obtain ⟨i, hc, hh⟩ := hg
  obtain rfl := cut_all h hc
  unfold Cur
  rcases hh with ⟨rfl, rfl⟩ | ⟨h1, h2, h3, rfl⟩ | ⟨h1, h2, rfl⟩
  · right; exact ⟨fun h => h.1 rfl, rfl⟩
  · right; exact ⟨fun h => h2 h.2, rfl⟩
  · left
    have := (h (i - 1) (by omega)).2
    exact ⟨⟨h1, by omega⟩, by omega⟩
/-- Behind Remove nothing stands. -/
theorem upd_not_cur {R : Nat → Int} {n : Nat} {v : Bool} {rev : Int} (hv : v = true ↔ Cur R n) (hr : 0 < rev) : ¬ Cur (upd R n v rev) n := by
  rintro ⟨h1, h2⟩
  unfold upd at h2
  by_cases hvt : v = true
  · rw [if_pos ⟨hvt, by omega⟩] at h2; omega
  · rw [if_neg (fun h => hvt h.1)] at h2
    exact hvt (hv.2 ⟨h1, h2⟩)
theorem upd_all {A R : Nat → Int} {n : Nat} {v : Bool} {rev : Int} (h : AllBy A R n rev) : AllBy A (upd R n v rev) n rev := fun i hi => by
  refine ⟨(h i hi).1, ?_⟩
  unfold upd
  split
  · omega
  · exact (h i hi).2
/-- v says P. -/
def TT (v : Bool) (P : Prop) : Prop := v = true ↔ P
theorem bool_eq {a b : Bool} {P : Prop} (h : a = true ↔ P) (k : b = true ↔ P) : a = b := by rw [Bool.eq_iff_iff]; exact h.trans k.symm

set_option maxHeartbeats 1600000 in
theorem law4 (A R : Nat → Int) (ad : Option Addr) (n c : Nat) (rev : Int) (w : World) (hn : n ≤ maxLen) (h : SP w ad n A R) (hr0 : 0 ≤ rev) (hr1 : rev ≤ 18446744073709551615) :
    Calls Try.prog 4 #[.slice ad n c, .int .u64 rev] w fun e w' => e = .returned (.bool true) ∧ Below w.heap.size w w' := by
  have HB := hide (bytes20 ad n c rev w hn)
  by_cases hbig : 65536 < n
  · unfold maxLen at hn
    clear h
    go_enter Try.func4, Try.ntmps4
    go_wp2_with (go_at_call 20; refine HB.out.mono ?_; rintro e w' ⟨⟨v, rfl⟩, rfl⟩; cases v)
    all_goals (go_ret; exact ⟨rfl, Below.refl _ _⟩)
  · have hn2 : n ≤ 65536 := by omega
    clear hn hbig
    by_cases hrz : rev = 0 ∨ rev = 18446744073709551615
    · clear h
      rcases hrz with rfl | rfl
      all_goals
        go_enter Try.func4, Try.ntmps4
        go_wp2_with (go_at_call 20; refine HB.out.mono ?_; rintro e w' ⟨⟨v, rfl⟩, rfl⟩; cases v)
        all_goals (go_ret; exact ⟨rfl, Below.refl _ _⟩)
    · have hz : (rev == 0) = false := by rw [beq_eq_false_iff_ne]; omega
      have hz2 : (rev == 18446744073709551615) = false := by rw [beq_eq_false_iff_ne]; omega
      have HZ : Hid (0 < rev ∧ rev < 18446744073709551615) := by unfold Hid; omega
      clear hrz hr0 hr1
      have HS := hide (sorted_any A R ad n c w hn2 h)
      have HSP := hide h
      clear h
      go_enter Try.func4, Try.ntmps4
      go_wp2_with (first | (go_at_call 20; refine HB.out.mono ?_; rintro e w0 ⟨⟨v, rfl⟩, rfl⟩; cases v) | (go_at_call 12; refine HS.out.mono ?_; rintro e w1 ⟨⟨v, rfl, hv⟩, hb1⟩; cases v))
      · go_ret; exact ⟨rfl, Below.refl _ _⟩
      · go_ret; exact ⟨rfl, hb1⟩
      · have HM := hide (hv (by trivial)).mono
        have HB1 := hide hb1
        have HSP1 := hide (HSP.out.below hb1)
        clear hv hb1 HB HS
        refine (allBy_any A R ad n c rev w1 hn2 HSP1.out).mono ?_
        rintro e w1 ⟨⟨v, rfl, hall⟩, rfl⟩
        cases v
        · go_wp2_with fail
          go_ret; exact ⟨rfl, HB1.out⟩
        · have HALL := hide (hall (by trivial))
          clear hall
          go_wp2_with fail
          -- zzStandsAt, behind 'zero'
          have HBz : Hid (Below w0.heap.size w0 (w1.alloc (.cells #[.int .u8 0, .bool false, .nilIface] 31))) := HB1.out.alloc HB1.out.size _
          have HSPz : Hid (SP (w1.alloc (.cells #[.int .u8 0, .bool false, .nilIface] 31)) ad n A R) := HSP1.out.below ((Below.refl _ _).alloc (Nat.le_refl _) _)
          refine (stands_any A R ad n c rev _ hn2 HSPz.out).mono ?_
          rintro e w2 ⟨⟨now, rfl, hnow⟩, rfl⟩
          have HNOW : Hid (TT now (Cur R n)) := hnow.trans (stands_cur HALL.out)
          clear hnow
          go_wp2_with fail
          -- c := zzBuild(spans)
          refine (build_any A R ad n c _ hn2 HSPz.out).mono ?_
          rintro e w2 ⟨rfl, hown1, hvs1, hb2⟩
          have HB2 := hide (HBz.out.trans (hb2.mono HBz.out.size))
          have hs2 : w1.heap.size + 2 ≤ w2.heap.size := by
            obtain ⟨cur, hc, _⟩ := hown1
            have : w1.heap.size + 1 < w2.heap.size := by
              apply Decidable.byContradiction; intro hh
              simp only [World.size_alloc] at hc
              rw [Array.getElem?_eq_none (by omega)] at hc; cases hc
            omega
          have z0 : w2.cell? ⟨w1.heap.size, 0, none⟩ = some (.int .u8 0) := by rw [hb2.cell (by simp)]; simp
          have z1 : w2.cell? ⟨w1.heap.size, 1, none⟩ = some (.bool false) := by rw [hb2.cell (by simp)]; simp
          have z2 : w2.cell? ⟨w1.heap.size, 2, none⟩ = some .nilIface := by rw [hb2.cell (by simp)]; simp
          replace hvs1 : VS w2 (some ⟨w1.heap.size + 1, 0, none⟩) n A R := by simpa using hvs1
          have HV1 : Hid (VS (w2.alloc (.cells #[.slice (some ⟨w1.heap.size + 1, 0, none⟩) n n] 33)) (some ⟨w1.heap.size + 1, 0, none⟩) n A R) := hvs1.below ((Below.refl _ _).alloc (Nat.le_refl _) _)
          clear hown1 hvs1 hb2 HSPz HBz
          go_wp2_with fail
          -- f1 := c.Forget(rev)
          refine (forget_any A R (w1.heap.size + 1) n w2.heap.size rev _ hn2 HV1.out HM.out (Int.le_of_lt HZ.out.1) HZ.out.2 (by simp) (by simp) (by omega)).mono ?_
          rintro e w3 ⟨e0, ad1, c1, he0, hg, rfl, hp1, hvs1, hk3⟩
          have HB3 : Hid (Below w0.heap.size w0 w3) := (HB2.out.alloc HB2.out.size _).trans (hk3.below HB2.out.size (by have := HB2.out.size; simp; omega))
          have hs3 : w2.heap.size + 1 ≤ w3.heap.size := by have := hk3.1.size; simpa using this
          replace z0 : w3.cell? ⟨w1.heap.size, 0, none⟩ = some (.int .u8 0) := by rw [hk3.cell (by simp; omega) (by show w1.heap.size ≠ w2.heap.size; omega), World.cell?_alloc_past _ _ _ (by show w1.heap.size < w2.heap.size; omega)]; exact z0
          replace z1 : w3.cell? ⟨w1.heap.size, 1, none⟩ = some (.bool false) := by rw [hk3.cell (by simp; omega) (by show w1.heap.size ≠ w2.heap.size; omega), World.cell?_alloc_past _ _ _ (by show w1.heap.size < w2.heap.size; omega)]; exact z1
          replace z2 : w3.cell? ⟨w1.heap.size, 2, none⟩ = some .nilIface := by rw [hk3.cell (by simp; omega) (by show w1.heap.size ≠ w2.heap.size; omega), World.cell?_alloc_past _ _ _ (by show w1.heap.size < w2.heap.size; omega)]; exact z2
          have HSP3 : Hid (SP w3 ad n A R) := HSP.out.below HB3.out
          have hcase : (now = true ∧ e0 + 1 = n) ∨ (now = false ∧ e0 = n) := by
            rcases gone_all HALL.out hg with ⟨h1, h2⟩ | ⟨h1, h2⟩
            · exact .inl ⟨HNOW.out.2 h1, h2⟩
            · exact .inr ⟨Bool.eq_false_iff.2 fun h => h1 (HNOW.out.1 h), h2⟩
          have HV3 := hide hvs1
          have HK3 := hide hk3
          clear hvs1 hk3 HV1 hg
          have hL : (now = true ∧ n - e0 = 1) ∨ (now = false ∧ n - e0 = 0) := hcase.imp (fun h => ⟨h.1, by omega⟩) (fun h => ⟨h.1, by omega⟩)
          obtain ⟨L, hLe, hLn⟩ : ∃ L, n - e0 = L ∧ n = e0 + L := ⟨n - e0, rfl, by omega⟩
          rw [hLe] at hp1 HV3 hL
          subst hLn
          clear hcase hLe
          rcases hL with ⟨rfl, rfl⟩ | ⟨rfl, rfl⟩
          all_goals
            go_wp2_with fail
            refine (build_any A R ad _ c _ hn2 HSP3.out).mono ?_
            rintro e w4 ⟨rfl, hown2, hvs2, hb4⟩
            have hs4 : w3.heap.size + 1 ≤ w4.heap.size := by
              obtain ⟨cur, hc, _⟩ := hown2
              apply Decidable.byContradiction; intro hh
              rw [Array.getElem?_eq_none (by omega)] at hc; cases hc
            have HB4 := hide hb4
            have HBV := hide (fun X : Obj => hvs2.below ((Below.refl _ w4).alloc (Nat.le_refl _) X))
            have HOV := hide (fun X : Obj => Own.alloc (w := w4) hown2 X)
            have HP3 := hide hp1
            have HZ3 := hide (And.intro z0 (And.intro z1 z2))
            clear hown2 hvs2 hb4 hp1 z0 z1 z2
            go_wp2_with fail
            -- v, ok := h.Remove(rev)
            refine (remove_any A R w3.heap.size _ _ rev _ hn2 (HBV.out _) (HOV.out _)).mono ?_
            rintro e w5 ⟨ok, rfl, hok, hvs5, hown5, hk5⟩
            have hs5 : w4.heap.size + 1 ≤ w5.heap.size := by have := hk5.1.size; simpa using this
            have HB5 : Hid (Below w3.heap.size w3 w5) := (HB4.out.alloc (by omega) _).trans (hk5.below (Nat.le_refl _) (by simp; omega))
            have hp2 := (hk5.cell (p := ⟨w4.heap.size, 0, none⟩) (by simp) (by show w4.heap.size ≠ w3.heap.size; omega))
            have hq2 := (hk5.frozen (p := ⟨w4.heap.size, 0, none⟩) (by simp) (by show w4.heap.size ≠ w3.heap.size; omega))
            simp at hp2 hq2
            have HV5 := hide (fun X : Obj => hvs5.below ((Below.refl _ w5).alloc (Nat.le_refl _) X))
            have HNC := hide (upd_not_cur hok HZ.out.1)
            have HOK := hide (bool_eq hok HNOW.out)
            clear hk5 hvs5 hown5 HBV HOV hok
            go_wp2_with fail
            -- f2 := h.Forget(rev)
            have hl45 : w4.heap.size < w5.heap.size := by omega
            refine (forget_any A (upd R _ ok rev) w3.heap.size _ w4.heap.size rev _ hn2 (HV5.out _) HM.out (Int.le_of_lt HZ.out.1) HZ.out.2 (by rw [World.cell?_alloc_past _ _ _ hl45]; exact hp2) (by rw [World.frozen?_alloc_past _ _ _ hl45]; exact hq2) (by omega)).mono ?_
            rintro e w6 ⟨e1, ad2, c2, he1, hg2, rfl, hp3, hvs6, hk6⟩
            have he2 := ((gone_all (upd_all HALL.out) hg2).resolve_left (fun h => absurd h.1 HNC.out)).2.symm
            subst he2
            replace hp3 : w6.cell? ⟨w4.heap.size, 0, none⟩ = some (.slice ad2 0 c2) := by simpa using hp3
            have HB6 : Hid (Below w3.heap.size w3 w6) := (HB5.out.alloc (by omega) _).trans (hk6.below (by omega) (by simp; omega))
            have hs6 : w5.heap.size + 1 ≤ w6.heap.size := by have := hk6.1.size; simpa using this
            have z0 := (HB6.out.cell (p := ⟨w1.heap.size, 0, none⟩) (by show w1.heap.size < w3.heap.size; omega)).trans HZ3.out.1
            have z1 := (HB6.out.cell (p := ⟨w1.heap.size, 1, none⟩) (by show w1.heap.size < w3.heap.size; omega)).trans HZ3.out.2.1
            have z2 := (HB6.out.cell (p := ⟨w1.heap.size, 2, none⟩) (by show w1.heap.size < w3.heap.size; omega)).trans HZ3.out.2.2
            have hp1 := (HB6.out.cell (p := ⟨w2.heap.size, 0, none⟩) (by show w2.heap.size < w3.heap.size; omega)).trans HP3.out
            have y0 := (hk6.cell (p := ⟨w5.heap.size, 0, none⟩) (by simp) (by show w5.heap.size ≠ w4.heap.size; omega))
            have y1 := (hk6.cell (p := ⟨w5.heap.size, 1, none⟩) (by simp) (by show w5.heap.size ≠ w4.heap.size; omega))
            have y2 := (hk6.cell (p := ⟨w5.heap.size, 2, none⟩) (by simp) (by show w5.heap.size ≠ w4.heap.size; omega))
            simp at y0 y1 y2
            have HV6 := hide (HV3.out.below HB6.out)
            have HSP6 := hide (HSP3.out.below HB6.out)
            obtain rfl := HOK.out
            have hlt6 : w4.heap.size < w6.heap.size := by omega
            have hlt7 : w5.heap.size < w6.heap.size := by omega
            clear hp2 hq2 HV5 HNC hg2 hvs6 hk6 HZ3 HP3 HB4 HB5 HV3 HSP3 HNOW HALL
            have heq := eq_zero
            go_wp2_with fail
            (first | refine (same_any A R ad1 ad e0 1 c1 c w6 hn2 HV6.out HSP6.out).mono ?_ | refine (same_any A R ad1 ad e0 0 c1 c w6 hn2 HV6.out HSP6.out).mono ?_)
            rintro e w7 ⟨rfl, hb7⟩
            replace z0 := (hb7.cell (p := ⟨w1.heap.size, 0, none⟩) (by show w1.heap.size < w6.heap.size; omega)).trans z0
            replace z1 := (hb7.cell (p := ⟨w1.heap.size, 1, none⟩) (by show w1.heap.size < w6.heap.size; omega)).trans z1
            replace z2 := (hb7.cell (p := ⟨w1.heap.size, 2, none⟩) (by show w1.heap.size < w6.heap.size; omega)).trans z2
            replace y0 := (hb7.cell (p := ⟨w5.heap.size, 0, none⟩) hlt7).trans y0
            replace y1 := (hb7.cell (p := ⟨w5.heap.size, 1, none⟩) hlt7).trans y1
            replace y2 := (hb7.cell (p := ⟨w5.heap.size, 2, none⟩) hlt7).trans y2
            replace hp3 := (hb7.cell (p := ⟨w4.heap.size, 0, none⟩) hlt6).trans hp3
            have HB7 := hide hb7
            clear hb7 hlt6 hlt7 hp1 hs2 hs3 hs4 hs5 hs6 hl45
            go_wp2_with fail
            go_ret
            exact ⟨rfl, HB3.out.trans ((HB6.out.trans (HB7.out.mono HB6.out.size)).mono HB3.out.size)⟩
end Go.Proofs.Qxb6617005a
