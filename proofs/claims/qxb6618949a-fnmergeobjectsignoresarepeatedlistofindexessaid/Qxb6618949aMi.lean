import Derived.Test.Qxb6618949aMd
import Derived.WalkKit
import Derived.WalkSpells
import Derived.WalkLawsBesides
import Derived.Deep.QuietTactic
import Derived.BigQuiet
namespace Go.Proofs.Qxb6618949a
open Go.RowKit
set_option linter.unusedVariables false
/-- What Init and Fix leave. -/
def HeapPost (T : Tab) (w : World) (Bh : Nat) (ax : Option Addr) (K cK R n c : Nat) (E : Nat → Nat × Nat) (P : Prop) (w' : World) : Prop :=
  ∃ E', HpR w' Bh ax K cK R n c E' ∧ Sws n E E' ∧ Kp Bh R w w' ∧ (P → T.HeapFrom E' n 0)
set_option maxHeartbeats 1600000 in
theorem init_any (w0 : World) (Bh R : Nat) (ax : Option Addr) (wd K cK n c : Nat) (N : Nat → Nat) (X : Nat → Nat → Int) (E : Nat → Nat × Nat) (w : World) (hb : Base w0 w Bh R ax wd K N X) (h : HpR w Bh ax K cK R n c E) (ok : Oks K N n E) (hn : n ≤ 8192) :
    Calls Try.prog 28 #[.iface 68 (.pointer (some ⟨Bh, 0, none⟩))] w fun e w' => e = .returned (.tuple #[]) ∧ HeapPost (tab wd K N X) w Bh ax K cK R n c E True w' := by
  have m1 := mLen ⟨Bh, 0, none⟩
  have HB := hide (And.intro hb (And.intro h ok))
  clear hb h ok
  obtain ⟨q, hq⟩ : ∃ q : Nat, (n : Int) / 2 = q := ⟨n / 2, by omega⟩
  have hqn : q = n / 2 := by omega
  have HQ := hide hqn
  have hq8 : q ≤ 8192 := by omega
  clear hqn
  go_enter Try.func28, Try.ntmps28
  go_wp2_with fail
  refine (hlen_any Bh ax _ K cK n c E w HB.out.2.1.hp).mono ?_
  rintro e w1 ⟨rfl, rfl⟩
  go_wp2_with fail
  go_loopw [3] (fun x wr => ∃ (t : Nat) (F : Nat → Nat × Nat), t ≤ q ∧ x = .int .i64 ((t : Int) - 1) ∧ Hid (HpR wr Bh ax K cK R n c F ∧ Sws n E F ∧ Kp Bh R w1 wr ∧ (tab wd K N X).HeapFrom F n t)) (fun x _ => ((intOf x) + 1).toNat)
  case atStart => exact ⟨q, E, Nat.le_refl _, rfl, HB.out.2.1, .refl, Kp.refl _ _ _, Tab.HeapFrom.leaves E (by rw [HQ.out]; exact Nat.le_refl _)⟩
  case round =>
    obtain ⟨t, F, ht, rfl, hr⟩ := hrel
    have hbw := hide (HB.out.1.kp hr.out.2.2.1)
    have hok := hide (HB.out.2.2.sws hr.out.2.1 (Nat.le_refl _))
    cases t with
    | zero =>
      go_wp2
      go_end0
      exact ⟨rfl, F, hr.out.1, hr.out.2.1, hr.out.2.2.1, fun _ => hr.out.2.2.2⟩
    | succ t =>
      have e1 : ((t + 1 : Nat) : Int) - 1 = (t : Int) := by omega
      have e2 : ((t : Int) + 1) - 1 = (t : Int) := by omega
      rw [e1]
      go_wp2_with fail
      refine (down_any w0 Bh R ax wd K cK n c n t N X F wr hbw.out hr.out.1 hok.out hn (Nat.le_refl _) (by omega)).mono ?_
      rintro e wa ⟨v, F', rfl, d1, d2, d3, d4⟩
      have HD := hide (And.intro d1 (And.intro d2 (And.intro d3 d4)))
      clear d1 d2 d3 d4
      go_wp2_with fail
      go_roundw
      case rel => exact ⟨t, F', by omega, by go_num, HD.out.1, hr.out.2.1.trans HD.out.2.1, hr.out.2.2.1.trans HD.out.2.2.1, HD.out.2.2.2 hr.out.2.2.2⟩
      case measure => simp [intOf]
set_option maxHeartbeats 400000 in
theorem up_any (v : Value) (w : World) : Calls Try.prog 38 #[v, .int .i64 0] w fun e w' => e = .returned (.tuple #[]) ∧ w' = w := by
  go_enter Try.func38, Try.ntmps38
  go_wp2_with fail
  go_loop [1, 4] (fun x _ => x = .int .i64 0) (fun _ _ => 0)
  case atStart => rfl
  case round =>
    obtain rfl := hrel
    go_wp2
    go_end0
    exact ⟨rfl, rfl⟩
set_option maxHeartbeats 800000 in
theorem fix_any (w0 : World) (Bh R : Nat) (ax : Option Addr) (wd K cK n c : Nat) (N : Nat → Nat) (X : Nat → Nat → Int) (E : Nat → Nat × Nat) (w : World) (hb : Base w0 w Bh R ax wd K N X) (h : HpR w Bh ax K cK R n c E) (ok : Oks K N n E) (hn : n ≤ 8192) :
    Calls Try.prog 31 #[.iface 68 (.pointer (some ⟨Bh, 0, none⟩)), .int .i64 0] w fun e w' => e = .returned (.tuple #[]) ∧ HeapPost (tab wd K N X) w Bh ax K cK R n c E ((tab wd K N X).HeapFrom E n 1) w' := by
  have m1 := mLen ⟨Bh, 0, none⟩
  have HB := hide (And.intro hb (And.intro h ok))
  clear hb h ok
  go_enter Try.func31, Try.ntmps31
  go_wp2_with fail
  refine (hlen_any Bh ax _ K cK n c E w HB.out.2.1.hp).mono ?_
  rintro e w1 ⟨rfl, rfl⟩
  go_wp2_with fail
  refine (down_any w0 Bh R ax wd K cK n c n 0 N X E w1 HB.out.1 HB.out.2.1 HB.out.2.2 hn (Nat.le_refl _) (by omega)).mono ?_
  rintro e wa ⟨v, F, rfl, d1, d2, d3, d4⟩
  have HD := hide (And.intro d1 (And.intro d2 (And.intro d3 d4)))
  clear d1 d2 d3 d4
  cases v
  · go_wp2_with fail
    refine (up_any _ _).mono ?_
    rintro e wb ⟨rfl, rfl⟩
    go_wp2
    go_end0
    exact ⟨rfl, F, HD.out.1, HD.out.2.1, HD.out.2.2.1, HD.out.2.2.2⟩
  · go_wp2
    go_end0
    exact ⟨rfl, F, HD.out.1, HD.out.2.1, HD.out.2.2.1, HD.out.2.2.2⟩
set_option maxHeartbeats 800000 in
theorem pop_any (w0 : World) (Bh R : Nat) (ax : Option Addr) (wd K cK n c : Nat) (N : Nat → Nat) (X : Nat → Nat → Int) (E : Nat → Nat × Nat) (w : World) (hb : Base w0 w Bh R ax wd K N X) (h : HpR w Bh ax K cK R (n + 1) c E) (ok : Oks K N (n + 1) E) (hn : n + 1 ≤ 8192) (hc : n + 1 ≤ c) :
    Calls Try.prog 32 #[.iface 68 (.pointer (some ⟨Bh, 0, none⟩))] w fun e w' => RetAny e ∧ HeapPost (tab wd K N X) w Bh ax K cK R n c (swapE E 0 n) ((tab wd K N X).HeapFrom (swapE E 0 n) n 1) w' := by
  have m1 := mLen ⟨Bh, 0, none⟩
  have m2 := mSwap ⟨Bh, 0, none⟩
  have m3 := mPop ⟨Bh, 0, none⟩
  have HB := hide (And.intro hb (And.intro h ok))
  have i2 : ((n + 1 : Nat) : Int) - 1 = (n : Int) := by omega
  have i3 : ((n : Int) + 1) - 1 = (n : Int) := by omega
  clear hb h ok
  go_enter Try.func32, Try.ntmps32
  go_wp2_with fail
  refine (hlen_any Bh ax _ K cK (n + 1) c E w HB.out.2.1.hp).mono ?_
  rintro e w1 ⟨rfl, rfl⟩
  go_wp2_with fail
  refine (hswap_any Bh ax K cK R (n + 1) c 0 n E w1 (by omega) (by omega) hn HB.out.2.1).mono ?_
  rintro e w2 ⟨rfl, s1, s2⟩
  have HS := hide (And.intro s1 s2)
  clear s1 s2
  go_wp2_with fail
  refine (down_any w0 Bh R ax wd K cK (n + 1) c n 0 N X (swapE E 0 n) w2 (HB.out.1.kp HS.out.2) HS.out.1 (HB.out.2.2.sws (Sws.refl.step (n := n + 1) (by omega) (by omega)) (Nat.le_refl _)) hn (by omega) (by omega)).mono ?_
  rintro e wa ⟨v, F, rfl, d1, d2, d3, d4⟩
  have HD := hide (And.intro d1 (And.intro d2 (And.intro d3 d4)))
  clear d1 d2 d3 d4
  go_wp2_with fail
  refine (hpop_any Bh ax K cK R n c F wa hn hc HD.out.1).mono ?_
  rintro e wb ⟨⟨v', rfl⟩, p1, p2⟩
  have HP := hide (And.intro p1 p2)
  clear p1 p2
  go_wp2_with fail
  go_ret
  exact ⟨⟨_, rfl⟩, F, HP.out.1, HD.out.2.1, (HS.out.2.trans HD.out.2.2.1).trans HP.out.2, HD.out.2.2.2⟩
end Go.Proofs.Qxb6618949a
