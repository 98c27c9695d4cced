import Derived.Test.Qxb6618949aMy
import Derived.Test.Qxb6618949aMu
import Derived.WalkKit
import Derived.WalkSpells
import Derived.WalkLawsBesides
import Derived.Deep.QuietTactic
import Derived.BigQuiet
import Derived.Deep.DeepCutAuto
namespace Go.Proofs.Qxb6618949a
open Go.RowKit
set_option linter.unusedVariables false
theorem rows_up (N : Nat → Nat) (k : Nat) : ∀ d, rows N k ≤ rows N (k + d)
  | 0 => Nat.le_refl _
  | d + 1 => Nat.le_trans (rows_up N k d) (by rw [← Nat.add_assoc]; simp only [rows]; omega)
theorem rows_at {N : Nat → Nat} {k K : Nat} (h : k ≤ K) : rows N k ≤ rows N K := by
  have := rows_up N k (K - k)
  rw [show k + (K - k) = K by omega] at this; exact this
theorem rows_one {N : Nat → Nat} {k K : Nat} (h : k < K) : N k ≤ rows N K := by
  have := rows_at (N := N) (show k + 1 ≤ K by omega)
  simp only [rows] at this; omega
theorem Lst.below {ik : IntKind} {w w' : World} {an : Option Addr} {K : Nat} {L : Nat → Nat} {X : Nat → Nat → Int} (h : Lst ik w an K L X) (hb : Below w.heap.size w w') : Lst ik w' an K L X := fun k hk => by
  obtain ⟨bn, on, nm, cn, e, h1, h2, h3, h4⟩ := h k hk
  exact ⟨bn, on, nm, cn, e, (hb.cell (block_lt_of_cell h1)).trans h1, h2, h3.below hb, h4⟩
/-- What is known behind WellFormed. -/
structure Good (w : World) (an ao : Option Addr) (K wd : Nat) (N : Nat → Nat) (X Y : Nat → Nat → Int) : Prop where
  w0 : 0 < wd
  w1 : wd ≤ 32
  hK : K ≤ 4096
  hN : ∀ k, k < K → N k ≤ 4096
  hR : ∀ k, k ≤ K → rows N k ≤ 4096
  byt : ∀ k x, 0 ≤ X k x ∧ X k x ≤ 255
  names : Lst .u8 w an K (fun k => N k * wd) X
  offs : Lst .i64 w ao K N Y
  sorted : (tab wd K N X).Sorted
theorem Good.below {w w' : World} {an ao : Option Addr} {K wd : Nat} {N : Nat → Nat} {X Y : Nat → Nat → Int} (h : Good w an ao K wd N X Y) (hb : Below w.heap.size w w') : Good w' an ao K wd N X Y :=
  ⟨h.w0, h.w1, h.hK, h.hN, h.hR, h.byt, h.names.below hb, h.offs.below hb, h.sorted⟩
theorem good_mk {w : World} {an ao : Option Addr} {K wd : Nat} {L N : Nat → Nat} {X Y : Nat → Nat → Int} (w0 : 0 < wd) (w1 : wd ≤ 32) (hK : K ≤ 4096) (hX : ∀ k x, 0 ≤ X k x ∧ X k x ≤ 255) (h : Lst .u8 w an K L X) (ho : Lst .i64 w ao K N Y) (hw : Wf wd K L N X) : Good w an ao K wd N X Y :=
  ⟨w0, w1, hK, fun k hk => Nat.le_trans (rows_one hk) hw.2.1, fun k hk => Nat.le_trans (rows_at hk) hw.2.1, hX, h.congr hw.1, ho, fun k r hk hr => hw.2.2 k r hk hr⟩
def Done (w : World) (e : Ending) (w' : World) : Prop := e = .returned (.bool true) ∧ Below w.heap.size w w'
set_option maxRecDepth 20000 in
set_option maxHeartbeats 6400000 in
theorem law3 (an ao : Option Addr) (K J cN cO : Nat) (a : Int) (L M : Nat → Nat) (X Y : Nat → Nat → Int) (w : World) (hX : ∀ k x, 0 ≤ X k x ∧ X k x ≤ 255) (h : Lst .u8 w an K L X) (ho : Lst .i64 w ao J M Y) :
    Calls Try.prog 3 #[.slice an K cN, .slice ao J cO, .int .i64 a] w fun e w' => Done w e w' := by
  have HX := hide (And.intro h (And.intro ho hX))
  clear h ho hX
  go_enter Try.func3, Try.ntmps3
  go_wp2_with fail
  refine (bytes6_any an ao K J cN cO a L M X Y w HX.out.1 HX.out.2.1).mono ?_
  rintro e w1 ⟨⟨b, rfl, hb⟩, rfl⟩
  have HB0 := hide hb
  clear hb
  cases b
  · go_wp2_with fail
    go_ret
    exact ⟨rfl, Below.refl _ _⟩
  have HB := hide (HB0.out rfl)
  clear HB0
  by_cases hK : K ≤ 4096
  rotate_left
  · have k1 : (4096 : Int) < (K : Int) := by omega
    go_wp2_with fail
    go_ret
    exact ⟨rfl, Below.refl _ _⟩
  by_cases hJ : J ≤ 4096
  rotate_left
  · have k1 : ¬ (4096 : Int) < (K : Int) := by omega
    have k2 : (4096 : Int) < (J : Int) := by omega
    go_wp2_with fail
    go_ret
    exact ⟨rfl, Below.refl _ _⟩
  have k1 : ¬ (4096 : Int) < (K : Int) := by omega
  have k2 : ¬ (4096 : Int) < (J : Int) := by omega
  have k3 : (K : Int) ≤ 4096 := by omega
  have k4 : (J : Int) ≤ 4096 := by omega
  go_wp2_with fail
  go_loopw [7, 8] (fun s x wr => ∃ (S k : Nat), k ≤ K ∧ S ≤ 1048576 ∧ s = .int .i64 S ∧ x = .int .i64 k ∧ wr = w1) (fun _ x _ => K - (intOf x).toNat)
  case atStart => exact ⟨0, 0, by omega, by omega, rfl, rfl, rfl⟩
  case round =>
  obtain ⟨S, k, hk, hS, rfl, rfl, rfl⟩ := hrel
  have s1 : (S : Int) ≤ 1048576 := by omega
  by_cases hlt : k < K
  · have j1 : (k : Int) < (K : Int) := by omega
    obtain ⟨bn, on, nm, cn, rfl, e0, _⟩ := HX.out.1 k hlt
    have l1 : (L k : Int) ≤ 1048576 := by have := HB.out.2.2.1 k hlt; omega
    by_cases hSL : S + (24 + L k) ≤ 1048576
    · have l3 : ¬ (1048576 : Int) < (S : Int) + (24 + (L k : Int)) := by omega
      go_wp2_with fail
      go_roundw
      case rel => exact ⟨S + (24 + L k), k + 1, by omega, hSL, by go_num, by go_num, by trivial⟩
      case measure => simp [intOf]; omega
    · have l3 : (1048576 : Int) < (S : Int) + (24 + (L k : Int)) := by omega
      go_wp2_with fail
      go_ret
      exact ⟨rfl, Below.refl _ _⟩
  obtain rfl : K = k := by omega
  go_wp2_with fail
  go_loopw [7, 9] (fun s x wr2 => ∃ (S k : Nat), k ≤ J ∧ S ≤ 1048576 ∧ s = .int .i64 S ∧ x = .int .i64 k ∧ wr2 = wr) (fun _ x _ => J - (intOf x).toNat)
  case atStart => exact ⟨S, 0, by omega, by omega, rfl, rfl, rfl⟩
  case round =>
  obtain ⟨S, k, hk, hS, rfl, rfl, rfl⟩ := hrel
  have s1 : (S : Int) ≤ 1048576 := by omega
  by_cases hlt : k < J
  · have j1 : (k : Int) < (J : Int) := by omega
    obtain ⟨bn, on, nm, cn, rfl, e0, _⟩ := HX.out.2.1 k hlt
    have l1 : (M k : Int) ≤ 1048576 := by have := HB.out.2.2.2 k hlt; omega
    by_cases hSL : S + (24 + 8 * M k) ≤ 1048576
    · have l3 : ¬ (1048576 : Int) < (S : Int) + (24 + 8 * (M k : Int)) := by omega
      go_wp2_with fail
      go_roundw
      case rel => exact ⟨S + (24 + 8 * M k), k + 1, by omega, hSL, by go_num, by go_num, by trivial⟩
      case measure => simp [intOf]; omega
    · have l3 : (1048576 : Int) < (S : Int) + (24 + 8 * (M k : Int)) := by omega
      go_wp2_with fail
      go_ret
      exact ⟨rfl, Below.refl _ _⟩
  obtain rfl : J = k := by omega
  go_upto_region 18 with fail
  go_cut [70] (fun c wx => c = .bool (decide (a ≠ 20 ∧ a ≠ 32)) ∧ wx = wr)
  case first =>
    by_cases h20 : a = 20
    · subst h20
      go_wp2_with fail
      go_meet
      exact ⟨by simp, rfl⟩
    · have n1 : (a != 20) = true := by simpa using h20
      by_cases h32 : a = 32
      · subst h32
        go_wp2_with fail
        go_meet
        exact ⟨by simp, rfl⟩
      · have n2 : (a != 32) = true := by simpa using h32
        go_wp2_with fail
        go_meet
        exact ⟨by simp [h20, h32], rfl⟩
  case rest =>
  obtain ⟨rfl, rfl⟩ := hcut
  by_cases hno : a ≠ 20 ∧ a ≠ 32
  · rw [decide_eq_true hno]
    go_wp2_with fail
    go_ret
    exact ⟨rfl, Below.refl _ _⟩
  rw [decide_eq_false hno]
  obtain ⟨wd, rfl, hw0, hw1⟩ : ∃ wd : Nat, a = wd ∧ 0 < wd ∧ wd ≤ 32 := by
    by_cases h20 : a = 20
    · exact ⟨20, h20, by omega, by omega⟩
    · by_cases h32 : a = 32
      · exact ⟨32, h32, by omega, by omega⟩
      · exact absurd ⟨h20, h32⟩ hno
  clear hno
  have w1 : (wd : Int) ≤ 32 := by omega
  go_wp2_with fail
  refine (wf_any an ao K J cN cO wd L M X Y wc hw0 hw1 HB.out.1 HB.out.2.1 HB.out.2.2.1 HB.out.2.2.2 HX.out.2.2 HX.out.1 HX.out.2.1).mono ?_
  rintro e w1 ⟨⟨b, rfl, hb⟩, m, rfl⟩
  have HW0 := hide hb
  clear hb
  cases b
  · go_wp2_with fail
    go_ret
    exact ⟨rfl, drewN_below (Below.refl _ _) _⟩
  have HW := hide (HW0.out rfl)
  clear HW0
  obtain rfl : J = K := HW.out.1
  have HG := hide (good_mk hw0 hw1 hJ HX.out.2.2 HX.out.1 HX.out.2.1 HW.out.2)
  clear HX HB HW
  have HG1 := hide (HG.out.below (drewN_below (Below.refl _ _) m))
  go_wp2_with fail
  refine (build_any an ao J cN cO wd M X Y (wc.drewN m) hw0 hw1 (by omega) HG.out.hN HG1.out.names HG1.out.offs).mono ?_
  rintro e w2 ⟨bx, rfl, h1, h2⟩
  have HB := hide (And.intro h1 (Below.trans (drewN_below (Below.refl wc.heap.size wc) m) h2))
  clear h1 h2
  go_wp2_with fail
  refine (zm_any w2 (some ⟨bx, 0, none⟩) wd J J M X HB.out.1 hw0 hw1 (by omega) HG.out.byt HG.out.hN (fun k hk => by have := HG.out.hR k hk; omega) HG.out.sorted).mono ?_
  rintro e w3 ⟨mm, bi, br, O, rfl, z1, z2, z3, z4, z5⟩
  have HZ := hide (And.intro z1 (And.intro z2 (And.intro z3 (HB.out.2.trans (Below.mono z5 HB.out.2.size)))))
  clear z1 z2 z3 z5
  have HG3 := hide (HG.out.below HZ.out.2.2.2)
  go_wp2_with fail
  refine (count_any an ao J cN cO wd M X Y w3 hw0 hw1 (by omega) HG.out.hN (fun k hk => by have := HG.out.hR k hk; omega) HG.out.byt HG3.out.names HG3.out.offs HG.out.sorted).mono ?_
  rintro e w4 ⟨rfl, m4, rfl⟩
  have hnum : (tab wd J M X).ct M J = mm := HZ.out.2.2.1.num.symm
  rw [hnum]
  clear hnum
  have z6 : (mm : Int) ≤ 8192 := by omega
  go_wp2_with fail
  go_loopw [14, 15, 16, 17, 18] (fun x _ _ _ _ wr => ∃ (t j : Nat), t ≤ mm ∧ x = .int .i64 t ∧ wr = w3.drewN j) (fun x _ _ _ _ _ => mm - (intOf x).toNat)
  case atStart => exact ⟨0, m4, by omega, rfl, rfl⟩
  case round =>
  obtain ⟨t, j, ht, rfl, rfl⟩ := hrel
  by_cases hlt : t < mm
  rotate_left
  · obtain rfl : mm = t := by omega
    go_wp2_with fail
    go_ret
    exact ⟨rfl, drewN_below HZ.out.2.2.2 _⟩
  obtain ⟨b1, b2⟩ := HZ.out.2.2.1.bnd t hlt
  have hF := HZ.out.2.2.1.fst t hlt
  have c1 := HZ.out.1.cell hlt
  have c2 := HZ.out.2.1.cell hlt
  obtain ⟨k, hk⟩ : ∃ k, (O t).1 = k := ⟨_, rfl⟩
  obtain ⟨r, hr⟩ : ∃ r, (O t).2 = r := ⟨_, rfl⟩
  simp only [hk, hr] at b1 b2 hF c1 c2
  have b1 : k < J := b1
  have b2 : r < M k := b2
  have b3 : M k ≤ 4096 := HG.out.hN k b1
  have HF := hide hF
  have HK := hide (And.intro hk hr)
  clear hF hk hr
  obtain ⟨bo, oo, om, co, rfl, d0, _⟩ := HG3.out.offs k b1
  have t1 : (t : Int) < (mm : Int) := by omega
  have t2 : (k : Int) < (J : Int) := by omega
  have t3 : (r : Int) < (M k : Int) := by omega
  have t4 : (M k : Int) ≤ 4096 := by omega
  have t5 : ¬ (J : Int) ≤ (k : Int) := by omega
  have t6 : ¬ (M k : Int) ≤ (r : Int) := by omega
  go_upto_region 33 with fail
  go_quiet (fail)
  go_wp2_with fail
  refine (first_any _ J cN wd k r M X _ hw0 hw1 b1 b2 (by omega) HG.out.hN HG.out.byt (HG3.out.below (drewN_below (Below.refl _ _) _)).names HG.out.sorted).mono ?_
  rintro e w5 ⟨⟨b, rfl, hb⟩, m5, rfl⟩
  obtain rfl : b = true := hb.2 HF.out
  clear hb
  by_cases h0 : t = 0
  · subst h0
    go_wp2_with fail
    go_roundw
    case rel => exact ⟨1, _, by omega, rfl, rfl⟩
    case measure => simp [intOf]; omega
  obtain ⟨s, rfl⟩ : ∃ s, t = s + 1 := ⟨t - 1, by omega⟩
  have hlt2 : s < mm := by omega
  obtain ⟨a1, a2⟩ := HZ.out.2.2.1.bnd s hlt2
  have c3 := HZ.out.1.cell hlt2
  have c4 := HZ.out.2.1.cell hlt2
  have hA := HZ.out.2.2.1.asc s hlt
  rw [HK.out.1, HK.out.2] at hA
  obtain ⟨k', hk'⟩ : ∃ k, (O s).1 = k := ⟨_, rfl⟩
  obtain ⟨r', hr'⟩ : ∃ r, (O s).2 = r := ⟨_, rfl⟩
  simp only [hk', hr'] at a1 a2 c3 c4 hA
  have a1 : k' < J := a1
  have a2 : r' < M k' := a2
  have a3 : M k' ≤ 4096 := HG.out.hN k' a1
  have HA : Hid (key (fun i => X k' (r' * wd + i)) wd < key (fun i => X k (r * wd + i)) wd) := hA
  clear hk' hr' hA
  have v1 : (s : Int) < (mm : Int) := by omega
  have v2 : (0 : Int) < (s : Int) + 1 := by omega
  have v3 : ((s : Int) + 1) - 1 = (s : Int) := by omega
  have v4 : (k' : Int) < (J : Int) := by omega
  have v5 : (r' : Int) ≤ 4096 := by omega
  go_wp2_with fail
  refine (nm_any _ J cN wd k' r' M X _ hw0 hw1 a1 (by omega) a2 a3 (HG3.out.below (drewN_below (Below.refl _ _) _)).names).mono ?_
  rintro e w6 ⟨⟨B1, o1, f1, rfl, hme⟩, rfl⟩
  have HM1 := hide hme
  clear hme
  go_wp2_with fail
  refine (nm_any _ J cN wd k r M X _ hw0 hw1 b1 (by omega) b2 b3 (HG3.out.below (drewN_below (Below.refl _ _) _)).names).mono ?_
  rintro e w6 ⟨⟨B2, o2, f2, rfl, hme⟩, rfl⟩
  have HM2 := hide hme
  clear hme
  go_wp2_with fail
  refine (lex_any _ _ wd f1 f2 _ _ _ (by omega) HM1.out HM2.out).mono ?_
  rintro e w7 ⟨hl, m7, rfl⟩
  obtain rfl := hl.eq
  clear hl
  obtain e3 : lexF (fun i => X k' (r' * wd + i)) (fun i => X k (r * wd + i)) wd = -1 := by
    have g := HA.out
    rcases lexF_lt (n := wd) (fun i => HG.out.byt k' (r' * wd + i)) (fun i => HG.out.byt k (r * wd + i)) with ⟨e, _⟩ | ⟨_, g2⟩ | ⟨_, g2⟩
    · exact e
    · omega
    · omega
  rw [e3]
  go_wp2_with fail
  go_roundw
  case rel => exact ⟨s + 1 + 1, _, by omega, by go_num, rfl⟩
  case measure => simp [intOf]; omega
end Go.Proofs.Qxb6618949a
