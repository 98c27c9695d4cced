import Derived.Test.Qxb6618949aMl
import Derived.WalkKit
import Derived.WalkSpells
import Derived.WalkLawsBesides
import Derived.Deep.QuietTactic
import Derived.BigQuiet
namespace Go.Proofs.Qxb6618949a
open Go.RowKit
set_option linter.unusedVariables false
/-- A list of rows of numbers. -/
def Lst (ik : IntKind) (w : World) (an : Option Addr) (K : Nat) (L : Nat → Nat) (X : Nat → Nat → Int) : Prop :=
  ∀ k, k < K → ∃ bn on nm cn, an = some ⟨bn, on, none⟩ ∧ w.cell? ⟨bn, on + k, none⟩ = some (.slice nm (L k) cn) ∧ L k ≤ cn ∧ Row ik w nm (L k) (X k) ∧ (nm = none → L k = 0)
theorem Lst.drew {ik : IntKind} {w : World} {an : Option Addr} {K : Nat} {L : Nat → Nat} {X : Nat → Nat → Int} (h : Lst ik w an K L X) (m : Nat) : Lst ik (w.drewN m) an K L X := h
set_option maxHeartbeats 800000 in
theorem name13_any (bn on K cN B o L c wd k r I : Nat) (w : World) (hw0 : 0 < wd) (hw : wd ≤ 32) (hk : k < K) (hK : K ≤ 1048576) (hr : r ≤ 1048576) (hI : I = r * wd) (hIL : I + wd ≤ c)
    (h : w.cell? ⟨bn, on + k, none⟩ = some (.slice (some ⟨B, o, none⟩) L c)) :
    Calls Try.prog 13 #[.slice (some ⟨bn, on, none⟩) K cN, .int .i64 wd, .int .i64 k, .int .i64 r] w fun e w' => e = .returned (.slice (some ⟨B, o + I, none⟩) wd (c - I)) ∧ w' = w := by
  have h1 : (k : Int) < (K : Int) := by omega
  have h2 : (r : Int) * (wd : Int) = (I : Int) := by rw [hI]; simp
  have h3 : ((r : Int) + 1) * (wd : Int) = (I : Int) + (wd : Int) := by rw [Int.add_mul, h2]; omega
  have hI2 : I ≤ 1048576 * 32 := by rw [hI]; exact Nat.mul_le_mul hr hw
  have hc := run_cut B o L c I (I + wd) .i64 .i64 (I : Int) ((I : Int) + (wd : Int)) rfl (by omega) (by omega) (by omega) (by omega)
  rw [Nat.add_sub_cancel_left] at hc
  clear hI
  go_enter Try.func13, Try.ntmps13
  go_wp2_with fail
  all_goals (go_ret; exact ⟨rfl, rfl⟩)
/-- A name in memory. -/
def NameIs (w : World) (wd : Nat) (Y : Nat → Int) (e : Ending) : Prop := ∃ B off c, e = .returned (.slice (some ⟨B, off, none⟩) wd c) ∧ Row .u8 w (some ⟨B, off, none⟩) wd Y
theorem nm_any (an : Option Addr) (K cN wd k r : Nat) (N : Nat → Nat) (X : Nat → Nat → Int) (w : World) (hw0 : 0 < wd) (hw : wd ≤ 32) (hk : k < K) (hK : K ≤ 1048576) (hr : r < N k) (hN : N k ≤ 4096) (h : Lst .u8 w an K (fun k => N k * wd) X) :
    Calls Try.prog 13 #[.slice an K cN, .int .i64 wd, .int .i64 k, .int .i64 r] w fun e w' => NameIs w wd (fun t => X k (r * wd + t)) e ∧ w' = w := by
  obtain ⟨bn, on, nm, cn, rfl, h1, h2, h3, h4⟩ := h k hk
  obtain ⟨B, o, rfl, _⟩ := h3 0 (by have := row_in (wd := wd) (t := 0) hr hw0; exact Nat.lt_of_le_of_lt (Nat.zero_le _) this)
  have hI : r * wd + wd ≤ cn := Nat.le_trans (row_end hr) h2
  refine (name13_any bn on K cN B o _ cn wd k r (r * wd) w hw0 hw hk hK (by omega) rfl hI h1).mono ?_
  rintro e w' ⟨rfl, rfl⟩
  refine ⟨⟨B, o + r * wd, _, rfl, fun t ht => ?_⟩, rfl⟩
  obtain ⟨B', o', e, hc⟩ := h3 (r * wd + t) (row_in hr ht)
  simp only [Option.some.injEq, Addr.mk.injEq, and_true] at e
  obtain ⟨rfl, rfl⟩ := e
  exact ⟨B, o + r * wd, rfl, by rw [Nat.add_assoc]; exact hc⟩
/-- The walk's answer of Lex, as keys. -/
theorem lexF_lt {X Y : Nat → Int} {n : Nat} (hX : ∀ i, 0 ≤ X i ∧ X i ≤ 255) (hY : ∀ i, 0 ≤ Y i ∧ Y i ≤ 255) : (lexF X Y n = -1 ∧ key X n < key Y n) ∨ (lexF X Y n = 0 ∧ key X n = key Y n) ∨ (lexF X Y n = 1 ∧ key Y n < key X n) :=
  lexF_key n (fun i _ => hX i) (fun i _ => hY i)
def RetIff (Q : Prop) (e : Ending) : Prop := ∃ b, e = .returned (.bool b) ∧ (b = true ↔ Q)
/-- Where the binary search stands. -/
def Seek (T : Tab) (k lo hi : Nat) (y : Int) : Prop := lo ≤ hi ∧ hi ≤ T.N k ∧ (∀ r, r < lo → T.A k r < y) ∧ ∀ r, hi ≤ r → r < T.N k → y < T.A k r
theorem Seek.up {T : Tab} {k lo hi mid : Nat} {y : Int} (h : Seek T k lo hi y) (hs : T.Sorted) (hk : k < T.K) (hm : mid < hi) (g : T.A k mid < y) : Seek T k (mid + 1) hi y :=
  ⟨by omega, h.2.1, fun r hr => by have := hs.mono hk (show r ≤ mid by omega) (Nat.lt_of_lt_of_le hm h.2.1); omega, h.2.2.2⟩
theorem Seek.down {T : Tab} {k lo hi mid : Nat} {y : Int} (h : Seek T k lo hi y) (hs : T.Sorted) (hk : k < T.K) (h1 : lo ≤ mid) (hm : mid < hi) (g : y < T.A k mid) : Seek T k lo mid y :=
  ⟨h1, by have := h.2.1; omega, h.2.2.1, fun r h0 hr => by have := hs.mono hk h0 hr; omega⟩
theorem Seek.none {T : Tab} {k lo hi : Nat} {y : Int} (h : Seek T k lo hi y) (hl : ¬ lo < hi) : ¬ ∃ r, r < T.N k ∧ T.A k r = y := by
  rintro ⟨r, h1, h2⟩
  by_cases g : r < lo
  · have := h.2.2.1 r g; omega
  · have := h.2.2.2 r (by omega) h1; omega
set_option maxRecDepth 20000 in
set_option maxHeartbeats 1600000 in
theorem has_any (an am : Option Addr) (K cN cm wd k : Nat) (N : Nat → Nat) (X : Nat → Nat → Int) (Y : Nat → Int) (w : World) (hw0 : 0 < wd) (hw : wd ≤ 32) (hk : k < K) (hK : K ≤ 1048576) (hN : N k ≤ 4096) (hX : ∀ k x, 0 ≤ X k x ∧ X k x ≤ 255) (hY : ∀ x, 0 ≤ Y x ∧ Y x ≤ 255)
    (h : Lst .u8 w an K (fun k => N k * wd) X) (hm : Row .u8 w am wd Y) (hS : (tab wd K N X).Sorted) :
    Calls Try.prog 24 #[.slice an K cN, .int .i64 wd, .int .i64 k, .slice am wd cm] w fun e w' => RetIff (∃ r, r < N k ∧ (tab wd K N X).A k r = key Y wd) e ∧ ∃ m, w' = w.drewN m := by
  obtain ⟨bn, on, nm, cn, rfl, h1, _⟩ := h k hk
  have HX := hide (And.intro h (And.intro hm (And.intro hX (And.intro hY hS))))
  have i1 : (k : Int) < (K : Int) := by omega
  have i2 : (N k : Int) ≤ 4096 := by omega
  have i3 : wrap64 (((N k : Int) * (wd : Int)).tdiv (wd : Int)) = (N k : Int) := by
    rw [Int.mul_tdiv_cancel _ (by omega)]
    unfold wrap64; omega
  clear h hm hX hY hS
  go_enter Try.func24, Try.ntmps24
  go_wp2_with fail
  go_loopw [9, 10, 11, 12] (fun a b _ _ wr => ∃ (lo hi m : Nat), a = .int .i64 lo ∧ b = .int .i64 hi ∧ wr = w.drewN m ∧ lo ≤ 4096 ∧ hi ≤ 4096 ∧ Hid (Seek (tab wd K N X) k lo hi (key Y wd))) (fun a b _ _ _ => (intOf b - intOf a).toNat)
  case atStart => exact ⟨0, N k, 0, rfl, rfl, (World.drewN_zero _).symm, by omega, hN, by omega, Nat.le_refl _, fun r hr => by omega, fun r h0 h1 => absurd h1 (Nat.not_lt.2 h0)⟩
  case round =>
    obtain ⟨lo, hi, m, rfl, rfl, rfl, hlo, hhi, hs⟩ := hrel
    by_cases hlt : lo < hi
    · obtain ⟨mid, hmid⟩ : ∃ mid : Nat, mid = lo + (hi - lo) / 2 := ⟨_, rfl⟩
      have j1 : (lo : Int) < (hi : Int) := by omega
      have j2 : ((hi : Int) - (lo : Int)) / 2 = (mid : Int) - (lo : Int) := by omega
      have j3 : (lo : Int) + ((mid : Int) - (lo : Int)) = (mid : Int) := by omega
      have hm1 : lo ≤ mid := by omega
      have hm2 : mid < hi := by omega
      have hmN : mid < N k := Nat.lt_of_lt_of_le hm2 hs.out.2.1
      clear hmid
      go_wp2_with fail
      refine (nm_any _ K cN wd k mid N X (w.drewN m) hw0 hw hk hK hmN hN HX.out.1).mono ?_
      rintro e w1 ⟨⟨B, off, c, rfl, hr⟩, rfl⟩
      have HR := hide hr
      clear hr
      go_wp2_with fail
      refine (lex_any _ _ wd c cm _ Y _ (by omega) HR.out HX.out.2.1).mono ?_
      rintro e w1 ⟨hl, m2, rfl⟩
      obtain rfl := hl.eq
      clear hl
      rcases lexF_lt (n := wd) (fun i => HX.out.2.2.1 k (mid * wd + i)) HX.out.2.2.2.1 with ⟨e, g⟩ | ⟨e, g⟩ | ⟨e, g⟩
      · rw [e]
        go_wp2_with fail
        go_roundw
        case rel => exact ⟨mid + 1, hi, _, by go_num, rfl, rfl, by omega, hhi, hs.out.up HX.out.2.2.2.2 hk hm2 g⟩
        case measure => simp [intOf]; omega
      · rw [e]
        go_wp2_with fail
        go_ret
        exact ⟨⟨true, rfl, ⟨fun _ => ⟨mid, hmN, g⟩, fun _ => rfl⟩⟩, _, rfl⟩
      · rw [e]
        go_wp2_with fail
        go_roundw
        case rel => exact ⟨lo, mid, _, rfl, rfl, rfl, hlo, by omega, hs.out.down HX.out.2.2.2.2 hk hm1 hm2 g⟩
        case measure => simp [intOf]; omega
    · have j1 : ¬ (lo : Int) < (hi : Int) := by omega
      go_wp2_with fail
      go_ret
      exact ⟨⟨false, rfl, ⟨fun e => Bool.noConfusion e, fun e => absurd e (hs.out.none hlt)⟩⟩, _, rfl⟩
end Go.Proofs.Qxb6618949a
