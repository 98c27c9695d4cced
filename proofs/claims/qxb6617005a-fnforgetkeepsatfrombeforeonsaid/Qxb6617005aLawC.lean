import Derived.Test.Qxb6617005aPlain
import Derived.Test.Qxb6617005aLawB
import Derived.WalkKit
import Derived.WalkSpells
import Derived.WalkLawsBesides
namespace Go.Proofs.Qxb6617005a
open Go.RowKit
set_option linter.unusedVariables false

theorem ret_bool {a b : Bool} (h : a = b) : Ending.returned (.bool a) = .returned (.bool b) := by rw [h]
set_option maxHeartbeats 1600000 in
theorem law5 (A R : Nat → Int) (ad : Option Addr) (n c : Nat) (t r : Int) (w : World) (hn : n ≤ maxLen) (h : SP w ad n A R) (ht0 : 0 ≤ t) (ht1 : t ≤ 18446744073709551615) (hr0 : 0 ≤ r) (hr1 : r ≤ 18446744073709551615) :
    Calls Try.prog 5 #[.slice ad n c, .int .u64 t, .int .u64 r] w fun e w' => e = .returned (.bool true) ∧ Below w.heap.size w w' := by
  have HB := hide (bytes23 ad n c t r w hn)
  by_cases hbig : 65536 < n
  · unfold maxLen at hn
    clear h
    go_enter Try.func5, Try.ntmps5
    go_wp2_with (go_at_call 23; refine HB.out.mono ?_; rintro e w' ⟨⟨v, rfl⟩, rfl⟩; cases v)
    all_goals (go_ret; exact ⟨rfl, Below.refl _ _⟩)
  · have hn2 : n ≤ 65536 := by omega
    clear hn hbig
    by_cases hrz : t = 18446744073709551615 ∨ r = 18446744073709551615 ∨ r < t
    · clear h
      rcases hrz with rfl | rfl | hlt
      · go_enter Try.func5, Try.ntmps5
        go_wp2_with (go_at_call 23; refine HB.out.mono ?_; rintro e w' ⟨⟨v, rfl⟩, rfl⟩; cases v)
        all_goals (go_ret; exact ⟨rfl, Below.refl _ _⟩)
      · go_enter Try.func5, Try.ntmps5
        go_wp2_with (go_at_call 23; refine HB.out.mono ?_; rintro e w' ⟨⟨v, rfl⟩, rfl⟩; cases v)
        all_goals (go_ret; exact ⟨rfl, Below.refl _ _⟩)
      · go_enter Try.func5, Try.ntmps5
        go_wp2_with (go_at_call 23; refine HB.out.mono ?_; rintro e w' ⟨⟨v, rfl⟩, rfl⟩; cases v)
        all_goals (go_ret; exact ⟨rfl, Below.refl _ _⟩)
    · have hz : (t == 18446744073709551615) = false := by rw [beq_eq_false_iff_ne]; omega
      have hz2 : (r == 18446744073709551615) = false := by rw [beq_eq_false_iff_ne]; omega
      have htr : t ≤ r := by omega
      have HZ : Hid (0 ≤ t ∧ t < 18446744073709551615 ∧ 0 ≤ r ∧ r < 18446744073709551615) := by unfold Hid; omega
      clear hrz hr0 hr1 ht0 ht1
      have HS := hide (sorted_any A R ad n c w hn2 h)
      have HSP := hide h
      clear h
      go_enter Try.func5, Try.ntmps5
      go_wp2_with (first | (go_at_call 23; refine HB.out.mono ?_; rintro e w0 ⟨⟨v, rfl⟩, rfl⟩; cases v) | (go_at_call 12; refine HS.out.mono ?_; rintro e w1 ⟨⟨v, rfl, hv⟩, hb1⟩; cases v))
      · go_ret; exact ⟨rfl, Below.refl _ _⟩
      · go_ret; exact ⟨rfl, hb1⟩
      · have HM := hide (hv (by trivial)).mono
        have HB1 := hide hb1
        have HSP1 := hide (HSP.out.below hb1)
        clear hv hb1 HB HS
        refine (ends_any A R ad n c w1 hn2 HSP1.out).mono ?_
        rintro e w2 ⟨⟨v, rfl, hends⟩, hb2⟩
        have HB2 := hide (HB1.out.trans (hb2.mono HB1.out.size))
        cases v
        · go_wp2_with fail
          go_ret; exact ⟨rfl, HB2.out⟩
        · have HENDS := hide (hends (by trivial))
          clear hends hb2
          go_wp2_with fail
          -- h := zzBuild(spans), behind 'zero'
          have HBz : Hid (Below w0.heap.size w0 (w2.alloc (.cells #[.int .u8 0, .bool false, .nilIface] 31))) := HB2.out.alloc HB2.out.size _
          refine (build_any A R ad n c _ hn2 (HSP.out.below HBz.out)).mono ?_
          rintro e w3 ⟨rfl, hown1, hvs1, hb3⟩
          have HB3 := hide (HBz.out.trans (hb3.mono HBz.out.size))
          have hs3 : w2.heap.size + 2 ≤ w3.heap.size := by
            obtain ⟨cur, hc, _⟩ := hown1
            have : w2.heap.size + 1 < w3.heap.size := by
              apply Decidable.byContradiction; intro hh
              simp only [World.size_alloc] at hc
              rw [Array.getElem?_eq_none (by omega)] at hc; cases hc
            omega
          have HZ3 : Hid (w3.cell? ⟨w2.heap.size, 0, none⟩ = some (.int .u8 0) ∧ w3.cell? ⟨w2.heap.size, 1, none⟩ = some (.bool false) ∧ w3.cell? ⟨w2.heap.size, 2, none⟩ = some .nilIface) := by
            refine ⟨?_, ?_, ?_⟩ <;> (rw [hb3.cell (by simp)]; simp)
          replace hvs1 : VS w3 (some ⟨w2.heap.size + 1, 0, none⟩) n A R := by simpa using hvs1
          have HV3 := hide (fun X : Obj => hvs1.below ((Below.refl _ w3).alloc (Nat.le_refl _) X))
          clear hown1 hvs1 hb3 HBz
          go_wp2_with fail
          -- bv, bok := h.At(r)
          refine (at_any A R (some ⟨w2.heap.size + 1, 0, none⟩) n n r _ hn2 (HV3.out _) HM.out HZ.out.2.2.1 HZ.out.2.2.2).mono ?_
          rintro e w4 ⟨⟨i1, bok, rfl, hc1, hbok⟩, hb4⟩
          have HB4 : Hid (Below w3.heap.size w3 w4) := ((Below.refl _ _).alloc (Nat.le_refl _) _).trans (hb4.mono (by simp))
          have hs4 : w3.heap.size + 1 ≤ w4.heap.size := by have := hb4.size; simpa using this
          have hp4 := (hb4.cell (p := ⟨w3.heap.size, 0, none⟩) (by simp))
          have hq4 := (hb4.frozen (p := ⟨w3.heap.size, 0, none⟩) (by simp))
          simp at hp4 hq4
          have HV4 := hide (fun X : Obj => ((HV3.out _).below hb4).below ((Below.refl _ w4).alloc (Nat.le_refl _) X))
          have HC1 := hide hc1
          have HBOK : Hid (TT bok (Stood R r i1)) := hbok
          clear hb4 HV3 hc1 hbok
          unfold zeroV
          go_wp2_with fail
          -- f := h.Forget(before)
          have hl34 : w3.heap.size < w4.heap.size := by omega
          refine (forget_any A R (w2.heap.size + 1) n w3.heap.size t _ hn2 (HV4.out _) HM.out HZ.out.1 HZ.out.2.1 (by rw [World.cell?_alloc_past _ _ _ hl34]; exact hp4) (by rw [World.frozen?_alloc_past _ _ _ hl34]; exact hq4) (by omega)).mono ?_
          rintro e w5 ⟨e0, ad1, c1, he0, hg, rfl, hp5, hvs5, hk5⟩
          have hs5 : w4.heap.size + 1 ≤ w5.heap.size := by have := hk5.1.size; simpa using this
          have HB5 : Hid (Below w3.heap.size w3 w5) := (HB4.out.alloc (by omega) _).trans (hk5.below (Nat.le_refl _) (by simp; omega))
          have y0 := (hk5.cell (p := ⟨w4.heap.size, 0, none⟩) (by simp) (by show w4.heap.size ≠ w3.heap.size; omega))
          have y1 := (hk5.cell (p := ⟨w4.heap.size, 1, none⟩) (by simp) (by show w4.heap.size ≠ w3.heap.size; omega))
          have y2 := (hk5.cell (p := ⟨w4.heap.size, 2, none⟩) (by simp) (by show w4.heap.size ≠ w3.heap.size; omega))
          simp at y0 y1 y2
          have HE0 := hide (ended_gone HM.out HENDS.out hg)
          have HG := hide hg
          have HV5 := hide hvs5
          have HM5 := hide (HM.out.shift (e0 := e0))
          obtain ⟨L, hLe, hLn⟩ : ∃ L, n - e0 = L ∧ n = e0 + L := ⟨n - e0, rfl, by omega⟩
          rw [hLe] at hp5 HV5 HM5
          have HLE := hide hLe
          subst hLn
          clear hLe hg hvs5 hk5 HV4 hp4 hq4
          have HY5 := hide (And.intro y0 (And.intro y1 y2))
          have HP5 := hide hp5
          by_cases hL : 0 < L
          all_goals
            go_wp2_with fail
            -- av, aok := h.At(r)
            refine (at_any _ _ ad1 L c1 r w5 (by omega) HV5.out HM5.out HZ.out.2.2.1 HZ.out.2.2.2).mono ?_
            rintro e w6 ⟨⟨i2, aok, rfl, hc2, haok⟩, hb6⟩
            have HB6 := hide hb6
            have hs6 := hb6.size
            have HSH : Hid (TT aok (Stood R r i1)) := haok.trans (stood_shift htr HG.out HC1.out (by rw [HLE.out]; exact hc2))
            obtain rfl : aok = bok := bool_eq HSH.out HBOK.out
            clear hb6 haok hc2 y0 y1 y2 hp5
            unfold zeroV
            have HB36 : Hid (Below w3.heap.size w3 w6) := HB5.out.trans (HB6.out.mono HB5.out.size)
            have HB06 : Hid (Below w0.heap.size w0 w6) := HB3.out.trans (HB36.out.mono HB3.out.size)
            have HSP6 := hide (fun X : Obj => HSP.out.below (HB06.out.alloc HB06.out.size X))
            go_wp2_with fail
            -- e := zzCountEnded(spans, before)
            refine (count_any A R ad _ c e0 t _ hn2 (HSP6.out _) (by omega) HE0.out).mono ?_
            rintro e w7 ⟨rfl, rfl⟩
            have z0 := (HB36.out.cell (p := ⟨w2.heap.size, 0, none⟩) (by show w2.heap.size < w3.heap.size; omega)).trans HZ3.out.1
            have z1 := (HB36.out.cell (p := ⟨w2.heap.size, 1, none⟩) (by show w2.heap.size < w3.heap.size; omega)).trans HZ3.out.2.1
            have z2 := (HB36.out.cell (p := ⟨w2.heap.size, 2, none⟩) (by show w2.heap.size < w3.heap.size; omega)).trans HZ3.out.2.2
            have y0 := (HB6.out.cell (p := ⟨w4.heap.size, 0, none⟩) (by show w4.heap.size < w5.heap.size; omega)).trans HY5.out.1
            have y1 := (HB6.out.cell (p := ⟨w4.heap.size, 1, none⟩) (by show w4.heap.size < w5.heap.size; omega)).trans HY5.out.2.1
            have y2 := (HB6.out.cell (p := ⟨w4.heap.size, 2, none⟩) (by show w4.heap.size < w5.heap.size; omega)).trans HY5.out.2.2
            have hp6 := (HB6.out.cell (p := ⟨w3.heap.size, 0, none⟩) (by show w3.heap.size < w5.heap.size; omega)).trans HP5.out
            have hl1 : w2.heap.size < w6.heap.size := by omega
            have hl2 : w3.heap.size < w6.heap.size := by omega
            have hl3 : w4.heap.size < w6.heap.size := by omega
            have HV6 := hide (fun X : Obj => (HV5.out.below HB6.out).below ((Below.refl _ w6).alloc (Nat.le_refl _) X))
            clear HY5 HP5 HZ3
            go_wp2_with fail
            refine (same_any A R ad1 ad e0 L c1 c _ hn2 (HV6.out _) (HSP6.out _)).mono ?_
            rintro e w8 ⟨rfl, hb8⟩
            have hcl : ∀ b o, b < w6.heap.size → w8.cell? ⟨b, o, none⟩ = w6.cell? ⟨b, o, none⟩ := fun b o hb => (hb8.cell (p := ⟨b, o, none⟩) (by simp; omega)).trans (World.cell?_alloc_past _ _ _ hb)
            replace z0 := (hcl _ _ hl1).trans z0
            replace z1 := (hcl _ _ hl1).trans z1
            replace z2 := (hcl _ _ hl1).trans z2
            replace y0 := (hcl _ _ hl3).trans y0
            replace y1 := (hcl _ _ hl3).trans y1
            replace y2 := (hcl _ _ hl3).trans y2
            have x0 := (hb8.cell (p := ⟨w6.heap.size, 0, none⟩) (by simp))
            have x1 := (hb8.cell (p := ⟨w6.heap.size, 1, none⟩) (by simp))
            have x2 := (hb8.cell (p := ⟨w6.heap.size, 2, none⟩) (by simp))
            simp at x0 x1 x2
            have HSP8 := hide ((HSP6.out _).below hb8)
            have HB8 : Hid (Below w0.heap.size w0 w8) := (HB06.out.alloc HB06.out.size _).trans (hb8.mono (by have := HB06.out.size; simp; omega))
            clear hb8 hcl hl1 hl2 hl3 hp6 HV6 HSP6 HB36 HB6 hs3 hs4 hs5 hs6 hl34
            go_wp2_with fail
            refine (stands_any A R ad _ c r w8 hn2 HSP8.out).mono ?_
            rintro e w9 ⟨⟨st, rfl, hst⟩, rfl⟩
            obtain rfl : st = aok := bool_eq (hst.trans (stands_cut HC1.out)) HBOK.out
            clear hst
            have heq := eq_zero
            go_wp2_with fail
            go_ret
            exact ⟨by first | rfl | exact ret_bool (a := !decide ((e0 : Int) < (e0 : Int) + (L : Int))) (by simp; omega), HB8.out⟩
end Go.Proofs.Qxb6617005a
