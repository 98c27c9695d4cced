import Derived.Test.Qxb6618949aMf
import Derived.WalkKit
import Derived.WalkSpells
import Derived.WalkLawsBesides
import Derived.Deep.QuietTactic
import Derived.BigQuiet
import Derived.Deep.DeepCutAuto
namespace Go.Proofs.Qxb6618949a
open Go.RowKit
set_option linter.unusedVariables false
theorem nm1_any (bn on K cN L cn wd k r Nk : Nat) (nm : Option Addr) (Xk : Nat → Int) (w : World) (hw0 : 0 < wd) (hw : wd ≤ 32) (hk : k < K) (hK : K ≤ 1048576) (hr : r < Nk) (hN : Nk ≤ 1048576) (h1 : w.cell? ⟨bn, on + k, none⟩ = some (.slice nm L cn)) (hL : L = Nk * wd) (h2 : L ≤ cn) (h3 : Row .u8 w nm L Xk) :
    Calls Try.prog 13 #[.slice (some ⟨bn, on, none⟩) K cN, .int .i64 wd, .int .i64 k, .int .i64 r] w fun e w' => NameIs w wd (fun t => Xk (r * wd + t)) e ∧ w' = w := by
  subst hL
  obtain ⟨B, o, rfl, _⟩ := h3 0 (by have := row_in (wd := wd) (t := 0) hr hw0; exact Nat.lt_of_le_of_lt (Nat.zero_le _) this)
  have hI : r * wd + wd ≤ cn := Nat.le_trans (row_end hr) h2
  refine (name13_any bn on K cN B o _ cn wd k r (r * wd) w hw0 hw hk hK (by omega) rfl hI h1).mono ?_
  rintro e w' ⟨rfl, rfl⟩
  refine ⟨⟨B, o + r * wd, _, rfl, fun t ht => ?_⟩, rfl⟩
  obtain ⟨B', o', e, hc⟩ := h3 (r * wd + t) (row_in hr ht)
  simp only [Option.some.injEq, Addr.mk.injEq, and_true] at e
  obtain ⟨rfl, rfl⟩ := e
  exact ⟨B, o + r * wd, rfl, by rw [Nat.add_assoc]; exact hc⟩
/-- Lst under a law that holds only for indexes below K. -/
theorem Lst.congr {ik : IntKind} {w : World} {an : Option Addr} {K : Nat} {L M : Nat → Nat} {X : Nat → Nat → Int} (h : Lst ik w an K L X) (e : ∀ k, k < K → L k = M k) : Lst ik w an K M X := fun k hk => by
  rw [← e k hk]; exact h k hk
theorem Lst.less {ik : IntKind} {w : World} {an : Option Addr} {K J : Nat} {L : Nat → Nat} {X : Nat → Nat → Int} (h : Lst ik w an K L X) (e : J ≤ K) : Lst ik w an J L X := fun k hk => h k (by omega)
/-- What WellFormed has seen of the first k Indexes. -/
def Wf (wd k : Nat) (L M : Nat → Nat) (X : Nat → Nat → Int) : Prop := (∀ i, i < k → L i = M i * wd) ∧ rows M k ≤ 4096 ∧ ∀ i r, i < k → r + 1 < M i → (tab wd k M X).A i r ≤ (tab wd k M X).A i (r + 1)
def RetWf (J K wd : Nat) (L M : Nat → Nat) (X : Nat → Nat → Int) (e : Ending) : Prop := ∃ b, e = .returned (.bool b) ∧ (b = true → J = K ∧ Wf wd K L M X)
set_option maxRecDepth 20000 in
set_option maxHeartbeats 3200000 in
theorem wf_any (an ao : Option Addr) (K J cN cO wd : Nat) (L M : Nat → Nat) (X Y : Nat → Nat → Int) (w : World) (hw0 : 0 < wd) (hw : wd ≤ 32) (hK : K ≤ 1048576) (hJ : J ≤ 1048576) (hL : ∀ k, k < K → L k ≤ 1048576) (hM : ∀ k, k < J → M k ≤ 1048576) (hX : ∀ k x, 0 ≤ X k x ∧ X k x ≤ 255)
    (h : Lst .u8 w an K L X) (ho : Lst .i64 w ao J M Y) :
    Calls Try.prog 7 #[.slice an K cN, .slice ao J cO, .int .i64 wd] w fun e w' => RetWf J K wd L M X e ∧ ∃ m, w' = w.drewN m := by
  by_cases hJK : J = K
  · subst hJK
    have HX := hide (And.intro h (And.intro ho (And.intro hL (And.intro hM hX))))
    clear h ho hL hM hX
    go_enter Try.func7, Try.ntmps7
    go_wp2_with fail
    go_loopw [7, 8, 9, 10, 11] (fun s x _ _ _ wr => ∃ (k m : Nat), k ≤ J ∧ x = .int .i64 k ∧ s = .int .i64 (rows M k : Nat) ∧ wr = w.drewN m ∧ Hid (Wf wd k L M X)) (fun _ x _ _ _ _ => J - (intOf x).toNat)
    case atStart => exact ⟨0, 0, by omega, rfl, rfl, rfl, fun i hi => by omega, Nat.zero_le _, fun i r hi => by omega⟩
    case round =>
      obtain ⟨k, m, hk, rfl, rfl, rfl, hf⟩ := hrel
      by_cases hlt : k < J
      · have j1 : (k : Int) < (J : Int) := by omega
        have j2 : (J : Int) ≤ 1048576 := by omega
        obtain ⟨bo, oo, om, co, rfl, d0, d1, d2, d3⟩ := HX.out.2.1 k hlt
        obtain ⟨bn, on, nm, cn, rfl, e0, e1, e2, e3⟩ := HX.out.1 k hlt
        have hMk : (M k : Int) ≤ 1048576 := by have := HX.out.2.2.2.1 k hlt; omega
        have hLk : (L k : Int) ≤ 1048576 := by have := HX.out.2.2.1 k hlt; omega
        obtain ⟨P, hP⟩ : ∃ P : Nat, P = M k * wd := ⟨_, rfl⟩
        have hP1 : (M k : Int) * (wd : Int) = (P : Int) := by rw [hP]; simp
        have hP2 : (P : Int) ≤ 1048576 * 32 := by
          have g1 := HX.out.2.2.2.1 k hlt
          have := Nat.mul_le_mul g1 hw
          omega
        have hr0 : (rows M k : Int) ≤ 4096 := by have := hf.out.2.1; omega
        have hrs : Hid ((rows M (k + 1) : Nat) = rows M k + M k) := rfl
        have HP := hide hP
        have HE := hide (And.intro d2 e2)
        obtain ⟨S, hS⟩ : ∃ S, rows M k = S := ⟨_, rfl⟩
        rw [hS] at hr0 ⊢
        have HS := hide hS
        clear hS hP d2 e2
        by_cases hLP : L k = P
        · have n1 : ((L k : Int) != (P : Int)) = false := by simp; omega
          by_cases hbig : S + M k ≤ 4096
          · have n2 : ¬ (4096 : Int) < (S : Int) + (M k : Int) := by omega
            go_wp2_with fail
            go_loopw [10, 11] (fun x _ wr => ∃ (s m : Nat), (s + 1 ≤ M k ∨ s = 0) ∧ x = .int .i64 (s + 1 : Nat) ∧ wr = w.drewN m ∧ Hid (∀ t, t + 1 < s + 1 → key (fun i => X k (t * wd + i)) wd ≤ key (fun i => X k ((t + 1) * wd + i)) wd)) (fun x _ _ => M k - (intOf x).toNat)
            case atStart => exact ⟨0, m, .inr rfl, rfl, rfl, fun t ht => by omega⟩
            case round =>
              obtain ⟨s, m, hs, rfl, rfl, hle⟩ := hrel
              by_cases hsl : s + 1 < M k
              · have k1 : (s : Int) + 1 < (M k : Int) := by omega
                have k2 : (s : Int) < (M k : Int) := by omega
                obtain ⟨Bo, oo2, rfl, y0⟩ := HE.out.1 s (by omega)
                obtain ⟨Bo', oo2', ee, y1⟩ := HE.out.1 (s + 1) (by omega)
                simp only [Option.some.injEq, Addr.mk.injEq, and_true] at ee
                obtain ⟨rfl, rfl⟩ := ee
                have i4 : ((s : Int) + 1) - 1 = (s : Int) := by omega
                have k3 : (M k : Nat) ≤ 4096 := by omega
                have HPL := hide (hLP.trans HP.out)
                go_wp2_with fail
                refine (nm1_any bn on J cN (L k) cn wd k s (M k) nm (X k) (w.drewN m) hw0 hw hlt hJ (by omega) (by omega) e0 HPL.out e1 HE.out.2).mono ?_
                rintro e w2 ⟨⟨B1, o1, c1, rfl, hme⟩, rfl⟩
                have HM1 := hide hme
                clear hme
                go_wp2_with fail
                refine (nm1_any bn on J cN (L k) cn wd k (s + 1) (M k) nm (X k) (w.drewN m) hw0 hw hlt hJ (by omega) (by omega) e0 HPL.out e1 HE.out.2).mono ?_
                rintro e w2 ⟨⟨B2, o2, c2, rfl, hme⟩, rfl⟩
                have HM2 := hide hme
                clear hme
                go_wp2_with fail
                refine (lex_any _ _ wd c1 c2 _ _ _ (by omega) HM1.out HM2.out).mono ?_
                rintro e w3 ⟨hl, m2, rfl⟩
                obtain rfl := hl.eq
                clear hl
                rcases lexF_lt (n := wd) (fun i => HX.out.2.2.2.2 k (s * wd + i)) (fun i => HX.out.2.2.2.2 k ((s + 1) * wd + i)) with ⟨e, g⟩ | ⟨e, g⟩ | ⟨e, g⟩
                · rw [e]
                  go_upto_region 19 with fail
                  go_quiet (fail)
                  go_wp2_with fail
                  go_roundw
                  case rel => exact ⟨s + 1, _, .inl (by omega), by go_num, rfl, fun t ht => by
                        by_cases e3 : t = s
                        · subst e3; omega
                        · exact hle.out t (by omega)⟩
                  case measure => simp [intOf]; omega
                · rw [e]
                  by_cases hy : Y k (s + 1) < Y k s
                  · go_upto_region 19 with fail
                    go_quiet (fail)
                    go_wp2_with fail
                    go_ret
                    exact ⟨⟨false, rfl, fun e => Bool.noConfusion e⟩, (m + m2) + nq, World.drewN_drewN _ _ _⟩
                  · go_upto_region 19 with fail
                    go_quiet (fail)
                    go_wp2_with fail
                    go_roundw
                    case rel => exact ⟨s + 1, _, .inl (by omega), by go_num, rfl, fun t ht => by
                          by_cases e3 : t = s
                          · subst e3; omega
                          · exact hle.out t (by omega)⟩
                    case measure => simp [intOf]; omega
                · rw [e]
                  go_wp2_with fail
                  go_ret
                  exact ⟨⟨false, rfl, fun e => Bool.noConfusion e⟩, _, rfl⟩
              · have k1 : ¬ (s : Int) + 1 < (M k : Int) := by omega
                go_wp2_with fail
                go_roundw
                case rel =>
                  refine ⟨k + 1, _, by omega, by go_num, by rw [hrs.out, HS.out]; rfl, rfl, fun i hi => ?_, by rw [hrs.out, HS.out]; exact hbig, fun i r hi hr => ?_⟩
                  · by_cases e3 : i = k
                    · subst e3; rw [hLP]; exact HP.out
                    · exact hf.out.1 i (by omega)
                  · by_cases e3 : i = k
                    · subst e3; exact hle.out r (by omega)
                    · exact hf.out.2.2 i r (by omega) hr
                case measure => simp [intOf]; omega
          · have n2 : (4096 : Int) < (S : Int) + (M k : Int) := by omega
            go_wp2_with fail
            go_ret
            exact ⟨⟨false, rfl, fun e => Bool.noConfusion e⟩, _, rfl⟩
        · have n1 : ((L k : Int) != (P : Int)) = true := by simp; omega
          go_wp2_with fail
          go_ret
          exact ⟨⟨false, rfl, fun e => Bool.noConfusion e⟩, _, rfl⟩
      · obtain rfl : J = k := by omega
        go_wp2_with fail
        go_ret
        exact ⟨⟨true, rfl, fun _ => ⟨rfl, hf.out⟩⟩, _, rfl⟩
  · have j1 : ((J : Int) != (K : Int)) = true := by simp; omega
    go_enter Try.func7, Try.ntmps7
    go_wp2_with fail
    go_ret
    exact ⟨⟨false, rfl, fun e => Bool.noConfusion e⟩, 0, rfl⟩
end Go.Proofs.Qxb6618949a
