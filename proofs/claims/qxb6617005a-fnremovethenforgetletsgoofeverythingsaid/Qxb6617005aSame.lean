import Derived.Test.Qxb6617005aReads
import Derived.Test.Qxb6617005aRemove
import Derived.WalkKit
import Derived.WalkSpells
import Derived.WalkLawsBesides
import Derived.Deep.QuietTactic
import Derived.BigQuiet
import Derived.Deep.RegionHeld3
namespace Go.Proofs.Qxb6617005a
open Go.RowKit
set_option linter.unusedVariables false
theorem SpanAt.heap {w W : World} {B o : Nat} {a r : Int} (h : SpanAt w B o a r) (e : W.heap = w.heap) : SpanAt W B o a r := by
  have hc : ∀ p, W.cell? p = w.cell? p := fun p => by unfold World.cell?; rw [e]
  unfold SpanAt at *
  rw [hc, hc, hc, hc, hc]; exact h
/-- Memory and streams are as they were. -/
def Like (w wr : World) : Prop := wr.heap = w.heap ∧ wr.os = w.os ∧ wr.tape = w.tape ∧ wr.output = w.output
theorem Like.cell {w wr : World} (h : Like w wr) (p : Addr) : wr.cell? p = w.cell? p := by unfold World.cell?; rw [h.1]
theorem Like.drewN {w wr : World} (h : Like w wr) (n : Nat) : Like w (wr.drewN n) := ⟨h.1, h.2.1, h.2.2.1, h.2.2.2⟩
theorem Like.trans {a b c : World} (h : Like a b) (k : Like b c) : Like a c := ⟨k.1.trans h.1, k.2.1.trans h.2.1, k.2.2.1.trans h.2.2.1, k.2.2.2.trans h.2.2.2⟩
theorem Like.below {w wr : World} (h : Like w wr) {B : Nat} : Below B w wr := ⟨h.2.1, h.2.2.1, h.2.2.2, by rw [h.1]; exact Nat.le_refl _, fun k _ => by rw [h.1]⟩
set_option maxHeartbeats 800000 in
theorem same_any (A R : Nat → Int) (hd ad : Option Addr) (e0 L hc c : Nat) (w : World) (hn : e0 + L ≤ 65536) (hv : VS w hd L (fun k => A (e0 + k)) (fun k => R (e0 + k))) (h : SP w ad (e0 + L) A R) :
    Calls Try.prog 22 #[.slice hd L hc, .slice ad (e0 + L) c, .int .i64 e0] w fun e w' => e = .returned (.bool true) ∧ Below w.heap.size w w' := by
  go_enter Try.func22, Try.ntmps22
  go_wp2_with fail
  go_loopw [7] (fun i wr => ∃ (k : Nat), k ≤ L ∧ i = .int .i64 k ∧ Hid (Like w wr)) (fun i _ => L - (intOf i).toNat)
  case atStart => exact ⟨0, by omega, rfl, ⟨rfl, rfl, rfl, rfl⟩⟩
  case round =>
    obtain ⟨k, hk, rfl, hlk⟩ := hrel
    by_cases hlt : k < L
    · obtain ⟨b, off, rfl, h0, h1⟩ := h (e0 + k) (by omega)
      obtain ⟨B, o, rfl, hs⟩ := hv k hlt
      have hI : (k : Int) < L := by omega
      have hI2 : (e0 : Int) + k < ((e0 + L : Nat) : Int) := by omega
      have g0 : wr.cell? ⟨b, off + (e0 + k) * 2, none⟩ = some (.int .u64 (A (e0 + k))) := (hlk.out.cell _).trans h0
      have g1 : wr.cell? ⟨b, off + (e0 + k) * 2 + 1, none⟩ = some (.int .u64 (R (e0 + k))) := (hlk.out.cell _).trans h1
      replace hs := hs.heap hlk.out.1
      clear h hv h0 h1
      have HA : ∀ W : World, W.heap = wr.heap → Calls Try.prog 17 #[.slice (some ⟨B, o, none⟩) L hc, .int .i64 k] W fun e w' => e = .returned (.int .u64 (A (e0 + k))) ∧ w' = W := fun W e => added_any B o k L hc _ _ _ (by omega) hlt (hs.heap e)
      have HR : ∀ W : World, W.heap = wr.heap → Calls Try.prog 18 #[.slice (some ⟨B, o, none⟩) L hc, .int .i64 k] W fun e w' => e = .returned (.int .u64 (R (e0 + k))) ∧ w' = W := fun W e => removed_any B o k L hc _ _ _ (by omega) hlt (hs.heap e)
      have HA := hide HA
      have HR := hide HR
      clear hs
      go_wp2_with fail
      go_quiet ((go_at_call 17; exact Calls.quiet_of_same (HA.out _ rfl)))
      go_wp2_with fail
      generalize hW2 : World.drewN wr _ = w2
      have hl2 : Hid (Like wr w2) := by subst hW2; exact ⟨rfl, rfl, rfl, rfl⟩
      clear hW2
      replace g0 := (hl2.out.cell _).trans g0
      replace g1 := (hl2.out.cell _).trans g1
      go_quiet ((go_at_call 18; exact Calls.quiet_of_same (HR.out _ hl2.out.1)))
      go_wp2_with fail
      go_roundw
      case rel => exact ⟨k + 1, by omega, by go_num, (hlk.out.trans hl2.out).drewN _⟩
      case measure => simp [intOf]; omega
    · clear h hv
      go_wp2_with fail
      go_ret
      exact ⟨rfl, hlk.out.below⟩
end Go.Proofs.Qxb6617005a
