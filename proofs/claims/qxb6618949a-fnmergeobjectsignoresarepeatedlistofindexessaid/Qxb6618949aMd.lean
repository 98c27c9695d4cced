import Derived.Test.Qxb6618949aMo
import Derived.WalkKit
import Derived.WalkSpells
import Derived.WalkLawsBesides
import Derived.Deep.QuietTactic
import Derived.BigQuiet
namespace Go.Proofs.Qxb6618949a
open Go.RowKit
set_option linter.unusedVariables false
theorem mLen (x : Addr) (W : World) : (method 213 68 (.pointer (some x)) "Len").run Try.prog W = .ok (60, .pointer (some x)) W := by kernel_rfl
theorem mLess (x : Addr) (W : World) : (method 213 68 (.pointer (some x)) "Less").run Try.prog W = .ok (61, .pointer (some x)) W := by kernel_rfl
theorem mPop (x : Addr) (W : World) : (method 213 68 (.pointer (some x)) "Pop").run Try.prog W = .ok (62, .pointer (some x)) W := by kernel_rfl
theorem mSwap (x : Addr) (W : World) : (method 213 68 (.pointer (some x)) "Swap").run Try.prog W = .ok (63, .pointer (some x)) W := by kernel_rfl
/-- Every entry names a row of an Index. -/
def Oks (K : Nat) (N : Nat → Nat) (n : Nat) (E : Nat → Nat × Nat) : Prop := ∀ t, t < n → (E t).1 < K ∧ (E t).2 < N (E t).1 ∧ N (E t).1 ≤ 4096
theorem Oks.sws {K : Nat} {N : Nat → Nat} {n m : Nat} {E F : Nat → Nat × Nat} (h : Oks K N n E) (g : Sws m E F) (hm : m ≤ n) : Oks K N n F := by
  induction g with
  | refl => exact h
  | step _ hi hj ih =>
    intro t ht
    unfold swapE
    split
    · exact ih _ (by omega)
    · split
      · exact ih _ (by omega)
      · exact ih t ht
/-- Where the Indexes lie, below the heap. -/
structure Base (w0 w : World) (Bh R : Nat) (ax : Option Addr) (wd K : Nat) (N : Nat → Nat) (X : Nat → Nat → Int) : Prop where
  ixs : Ixs w0 ax wd K N X
  bel : Below w0.heap.size w0 w
  hB : w0.heap.size ≤ Bh
  hR : w0.heap.size ≤ R
  byt : ∀ k x, 0 ≤ X k x ∧ X k x ≤ 255
  w0 : 0 < wd
  w1 : wd ≤ 32
  hK : K ≤ 8192
theorem Base.kp {w0 w w' : World} {Bh R : Nat} {ax : Option Addr} {wd K : Nat} {N : Nat → Nat} {X : Nat → Nat → Int} (h : Base w0 w Bh R ax wd K N X) (k : Kp Bh R w w') : Base w0 w' Bh R ax wd K N X :=
  ⟨h.ixs, h.bel.trans (k.below h.bel.size h.hB h.hR), h.hB, h.hR, h.byt, h.w0, h.w1, h.hK⟩
/-- What down leaves. -/
def DownPost (T : Tab) (w : World) (Bh : Nat) (ax : Option Addr) (K cK R n c m s : Nat) (E : Nat → Nat × Nat) (e : Ending) (w' : World) : Prop :=
  ∃ v E', e = .returned (.bool v) ∧ HpR w' Bh ax K cK R n c E' ∧ Sws m E E' ∧ Kp Bh R w w' ∧ (T.HeapFrom E m (s + 1) → T.HeapFrom E' m s)
theorem less_at {w0 w : World} {Bh R : Nat} {ax : Option Addr} {wd K cK n c : Nat} {N : Nat → Nat} {X : Nat → Nat → Int} {E : Nat → Nat × Nat} (hb : Base w0 w Bh R ax wd K N X) (h : HpR w Bh ax K cK R n c E) (ok : Oks K N n E) (hn : n ≤ 8192) {i j : Nat} (hi : i < n) (hj : j < n) :
    Calls Try.prog 61 #[.pointer (some ⟨Bh, 0, none⟩), .int .i64 i, .int .i64 j] w fun e w' => e = .returned (.bool ((tab wd K N X).ltb (E i) (E j))) ∧ Hid (HpR w' Bh ax K cK R n c E ∧ Kp Bh R w w') := by
  refine (hless_any Bh ax _ wd K cK n c i j E N X w hb.w0 hb.w1 hb.hK hi hj hn (ok i hi) (ok j hj) hb.byt h.hp (hb.ixs.below hb.bel)).mono ?_
  rintro e w' ⟨rfl, hb'⟩
  exact ⟨rfl, h.below hb', .of_below hb'⟩
set_option maxHeartbeats 3200000 in
theorem down_any (w0 : World) (Bh R : Nat) (ax : Option Addr) (wd K cK n c m s : Nat) (N : Nat → Nat) (X : Nat → Nat → Int) (E : Nat → Nat × Nat) (w : World) (hb : Base w0 w Bh R ax wd K N X) (h : HpR w Bh ax K cK R n c E) (ok : Oks K N n E) (hn : n ≤ 8192) (hm : m ≤ n) (hs : s ≤ 8192) :
    Calls Try.prog 36 #[.iface 68 (.pointer (some ⟨Bh, 0, none⟩)), .int .i64 s, .int .i64 m] w fun e w' => DownPost (tab wd K N X) w Bh ax K cK R n c m s E e w' := by
  have m2 := mLess ⟨Bh, 0, none⟩
  have m3 := mSwap ⟨Bh, 0, none⟩
  have HB := hide (And.intro hb (And.intro h ok))
  clear hb h ok
  go_enter Try.func36, Try.ntmps36
  go_wp2_with fail
  go_loopw [7, 8, 9, 10] (fun x _ _ _ wr => ∃ (i : Nat) (F : Nat → Nat × Nat), s ≤ i ∧ i ≤ 8192 ∧ x = .int .i64 i ∧ Hid (HpR wr Bh ax K cK R n c F ∧ Sws m E F ∧ Kp Bh R w wr ∧ ((tab wd K N X).HeapFrom E m (s + 1) → (tab wd K N X).DInv F m s i))) (fun x _ _ _ _ => 8192 - (intOf x).toNat)
  case atStart => exact ⟨s, E, Nat.le_refl _, hs, rfl, HB.out.2.1, .refl, Kp.refl _ _ _, fun h => Tab.dinv_start h⟩
  case round =>
    obtain ⟨i, F, hsi, hi8, rfl, hr⟩ := hrel
    obtain ⟨j1, hj1⟩ : ∃ j1 : Nat, 2 * (i : Int) + 1 = j1 := ⟨2 * i + 1, by omega⟩
    have e1 : j1 = 2 * i + 1 := by omega
    have hbw := hide (HB.out.1.kp hr.out.2.2.1)
    have hok := hide (HB.out.2.2.sws hr.out.2.1 hm)
    by_cases c1 : j1 < m
    · have d1 : (j1 : Int) < (m : Int) := by omega
      obtain ⟨j2, hj2⟩ : ∃ j2 : Nat, (j1 : Int) + 1 = j2 := ⟨j1 + 1, by omega⟩
      have e2 : j2 = j1 + 1 := by omega
      have H1 := hide (And.intro e1 e2)
      by_cases c2 : j2 < m
      · have d2 : (j2 : Int) < (m : Int) := by omega
        clear e1 e2
        go_wp2_with fail
        refine (less_at hbw.out hr.out.1 hok.out hn (i := j2) (j := j1) (by omega) (by omega)).mono ?_
        rintro e wa ⟨rfl, ha⟩
        have hbwa := hide (hbw.out.kp ha.out.2)
        cases hb1 : (tab wd K N X).ltb (F j2) (F j1)
        · have mn : Hid (∀ c, 0 < c → c < m → (c - 1) / 2 = i → ¬ (tab wd K N X).Lt (F c) (F j1)) := (fun c h0 h1 h2 => by
              have q := H1.out
              have hl : ¬ (tab wd K N X).Lt (F j2) (F j1) := fun hh => by rw [(Tab.ltb_iff _ _ _).2 hh] at hb1; cases hb1
              rcases (show c = j1 ∨ c = j2 by omega) with g | g
              · rw [g]; exact Tab.nlt_refl _
              · rw [g]; exact hl)
          go_wp2_with fail
          refine (less_at hbwa.out ha.out.1 hok.out hn (i := j1) (j := i) (by omega) (by have q := H1.out; omega)).mono ?_
          rintro e wb ⟨rfl, hbb⟩
          have hbwb := hide (hbwa.out.kp hbb.out.2)
          cases hb2 : (tab wd K N X).ltb (F j1) (F i)
          · go_wp2
            go_ret
            exact ⟨_, F, rfl, hbb.out.1, hr.out.2.1, (hr.out.2.2.1.trans ha.out.2).trans hbb.out.2, fun g => Tab.dinv_stop (hr.out.2.2.2 g) (fun c h0 h1 h2 => by
              have hl : ¬ (tab wd K N X).Lt (F j1) (F i) := fun hh => by rw [(Tab.ltb_iff _ _ _).2 hh] at hb2; cases hb2
              exact Tab.nlt_trans hl (mn.out c h0 h1 h2))⟩
          · go_wp2_with fail
            refine (hswap_any Bh ax K cK R n c i j1 F wb (by have q := H1.out; omega) (by omega) hn hbb.out.1).mono ?_
            rintro e wd' ⟨rfl, hq1, hq2⟩
            have HQ := hide (And.intro hq1 hq2)
            clear hq1 hq2
            go_wp2_with fail
            go_roundw
            case rel => exact ⟨j1, _, by have q := H1.out; omega, by omega, rfl, HQ.out.1, hr.out.2.1.step (by have q := H1.out; omega) (by omega), ((hr.out.2.2.1.trans ha.out.2).trans hbb.out.2).trans HQ.out.2, fun g => Tab.dinv_step (hr.out.2.2.2 g) hsi (by have q := H1.out; omega) (by omega) (by have q := H1.out; omega) ((Tab.ltb_iff _ _ _).1 hb2) mn.out⟩
            case measure => have q := H1.out; simp [intOf]; omega
        · have mn : Hid (∀ c, 0 < c → c < m → (c - 1) / 2 = i → ¬ (tab wd K N X).Lt (F c) (F j2)) := (fun c h0 h1 h2 => by
              have q := H1.out
              have hl : (tab wd K N X).Lt (F j2) (F j1) := (Tab.ltb_iff _ _ _).1 hb1
              rcases (show c = j1 ∨ c = j2 by omega) with g | g
              · rw [g]; exact Tab.nlt_of_lt hl
              · rw [g]; exact Tab.nlt_refl _)
          go_wp2_with fail
          refine (less_at hbwa.out ha.out.1 hok.out hn (i := j2) (j := i) (by omega) (by have q := H1.out; omega)).mono ?_
          rintro e wb ⟨rfl, hbb⟩
          have hbwb := hide (hbwa.out.kp hbb.out.2)
          cases hb2 : (tab wd K N X).ltb (F j2) (F i)
          · go_wp2
            go_ret
            exact ⟨_, F, rfl, hbb.out.1, hr.out.2.1, (hr.out.2.2.1.trans ha.out.2).trans hbb.out.2, fun g => Tab.dinv_stop (hr.out.2.2.2 g) (fun c h0 h1 h2 => by
              have hl : ¬ (tab wd K N X).Lt (F j2) (F i) := fun hh => by rw [(Tab.ltb_iff _ _ _).2 hh] at hb2; cases hb2
              exact Tab.nlt_trans hl (mn.out c h0 h1 h2))⟩
          · go_wp2_with fail
            refine (hswap_any Bh ax K cK R n c i j2 F wb (by have q := H1.out; omega) (by omega) hn hbb.out.1).mono ?_
            rintro e wd' ⟨rfl, hq1, hq2⟩
            have HQ := hide (And.intro hq1 hq2)
            clear hq1 hq2
            go_wp2_with fail
            go_roundw
            case rel => exact ⟨j2, _, by have q := H1.out; omega, by omega, rfl, HQ.out.1, hr.out.2.1.step (by have q := H1.out; omega) (by omega), ((hr.out.2.2.1.trans ha.out.2).trans hbb.out.2).trans HQ.out.2, fun g => Tab.dinv_step (hr.out.2.2.2 g) hsi (by have q := H1.out; omega) (by omega) (by have q := H1.out; omega) ((Tab.ltb_iff _ _ _).1 hb2) mn.out⟩
            case measure => have q := H1.out; simp [intOf]; omega
      · have d2 : (m : Int) ≤ (j2 : Int) := by omega
        clear e1 e2
        · have mn : Hid (∀ c, 0 < c → c < m → (c - 1) / 2 = i → ¬ (tab wd K N X).Lt (F c) (F j1)) := (fun c h0 h1 h2 => by
              have q := H1.out
              obtain rfl : c = j1 := by omega
              exact Tab.nlt_refl _)
          go_wp2_with fail
          refine (less_at hbw.out hr.out.1 hok.out hn (i := j1) (j := i) (by omega) (by have q := H1.out; omega)).mono ?_
          rintro e wb ⟨rfl, hbb⟩
          have hbwb := hide (hbw.out.kp hbb.out.2)
          cases hb2 : (tab wd K N X).ltb (F j1) (F i)
          · go_wp2
            go_ret
            exact ⟨_, F, rfl, hbb.out.1, hr.out.2.1, hr.out.2.2.1.trans hbb.out.2, fun g => Tab.dinv_stop (hr.out.2.2.2 g) (fun c h0 h1 h2 => by
              have hl : ¬ (tab wd K N X).Lt (F j1) (F i) := fun hh => by rw [(Tab.ltb_iff _ _ _).2 hh] at hb2; cases hb2
              exact Tab.nlt_trans hl (mn.out c h0 h1 h2))⟩
          · go_wp2_with fail
            refine (hswap_any Bh ax K cK R n c i j1 F wb (by have q := H1.out; omega) (by omega) hn hbb.out.1).mono ?_
            rintro e wd' ⟨rfl, hq1, hq2⟩
            have HQ := hide (And.intro hq1 hq2)
            clear hq1 hq2
            go_wp2_with fail
            go_roundw
            case rel => exact ⟨j1, _, by have q := H1.out; omega, by omega, rfl, HQ.out.1, hr.out.2.1.step (by have q := H1.out; omega) (by omega), (hr.out.2.2.1.trans hbb.out.2).trans HQ.out.2, fun g => Tab.dinv_step (hr.out.2.2.2 g) hsi (by have q := H1.out; omega) (by omega) (by have q := H1.out; omega) ((Tab.ltb_iff _ _ _).1 hb2) mn.out⟩
            case measure => have q := H1.out; simp [intOf]; omega
    · have d1 : (m : Int) ≤ (j1 : Int) := by omega
      clear e1
      go_wp2
      go_ret
      exact ⟨_, F, rfl, hr.out.1, hr.out.2.1, hr.out.2.2.1, fun g => Tab.dinv_stop (hr.out.2.2.2 g) (fun c h0 h1 h2 => by omega)⟩
end Go.Proofs.Qxb6618949a
