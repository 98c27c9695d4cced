import Derived.Test.Qxb6617152aDev
import Derived.WalkKit
import Derived.WalkSpells
import Derived.WalkLawsBesides
import Derived.Deep.QuietTactic
import Derived.BigQuiet
import Derived.OwnWalk
namespace Go.Proofs.Qxb6617152a
open Go.RowKit
set_option linter.unusedVariables false
/-- What ZZPopulationRead answers and leaves. -/
def ZPost (D : Int) (G k P cnt lo hi nm : Nat) (aM aN : Option Addr) (S : Nat → Int) (w : World) (e : Ending) (w' : World) : Prop :=
  ∃ R c', e = .returned (.tuple #[.int .i64 (dvs D G k), .slice (some ⟨R, 0, none⟩) (cnt + 1) c', .slice (cutA aM lo nm) (hi - lo) (nm - lo)]) ∧ (w.heap.size ≤ R ∨ aN = some ⟨R, 0, none⟩) ∧
    Row .i32 w' (some ⟨R, 0, none⟩) (cnt + 1) (fun j => sum S (P + j) - sum S P) ∧ Below 0 w w' ∧ ∀ b, b < w.heap.size → b ≠ R → w'.heap[b]? = w.heap[b]?
theorem two_alloc (w : World) (a b : Obj) : ((w.alloc a).alloc b).heap.size = w.heap.size + 2 ∧ Below w.heap.size w ((w.alloc a).alloc b) ∧ ((w.alloc a).alloc b).heap[w.heap.size]? = some a ∧ ((w.alloc a).alloc b).heap[w.heap.size + 1]? = some b := by
  have e1 : ((w.alloc a).alloc b).heap.size = w.heap.size + 2 := by show ((w.heap.push a).push b).size = _; rw [Array.size_push, Array.size_push]
  have e2 : (w.alloc a).heap.size = w.heap.size + 1 := by show (w.heap.push a).size = _; rw [Array.size_push]
  refine ⟨e1, ((Below.refl _ _).alloc (Nat.le_refl _) _).alloc (by omega) _, ?_, ?_⟩
  · show ((w.heap.push a).push b)[w.heap.size]? = _
    rw [Array.getElem?_push, if_neg (by simp), Array.getElem?_push_size]
  · show ((w.heap.push a).push b)[w.heap.size + 1]? = _
    rw [Array.getElem?_push, if_pos (by simp)]
set_option maxHeartbeats 1600000 in
theorem zread_any (D : Int) (G pg ns nm k P cnt nN lo hi : Nat) (aM aS aF aN : Option Addr) (S F : Nat → Int) (w : World)
    (hk : k ≤ G) (hG : G ≤ 65536) (hns : ns ≤ 65536) (hnm : nm ≤ 65536) (hnN : nN ≤ 65536) (hpg : 1 ≤ pg) (hGp : G * pg ≤ ns) (hD1 : 256 * (G : Int) < D) (hD2 : D ≤ 256 * (G : Int) + 256)
    (hP : P = bnd G pg ns k) (hC : P + cnt = bnd G pg ns (k + 1)) (hPC : P + cnt ≤ ns) (hlh : lo ≤ hi) (hhn : hi ≤ nm)
    (hSb : ∀ i, i < ns → 0 ≤ S i ∧ S i ≤ 255) (hF0 : F k = lo) (hF1 : F (k + 1) = hi)
    (hS : Row .u8 w aS ns S) (hF : Row .i64 w aF (G + 2) F) (hN : Room w aN nN)
    (lS : ∀ b o', aS = some ⟨b, o', none⟩ → b < w.heap.size) (lF : ∀ b o', aF = some ⟨b, o', none⟩ → b < w.heap.size) (lN : ∀ b o', aN = some ⟨b, o', none⟩ → b < w.heap.size)
    (hA : ∀ B o, aN = some ⟨B, o, none⟩ → (∀ b o', aS = some ⟨b, o', none⟩ → b ≠ B) ∧ (∀ b o', aF = some ⟨b, o', none⟩ → b ≠ B)) :
    Calls Try.prog 21 #[.int .i64 D, .int .i64 ((G : Int) + 1), .int .i64 pg, .int .i64 ns, .slice aM nm nm, .slice aS ns ns, .slice aF (G + 2) (G + 2), .int .i64 k, .slice aN nN nN] w
      fun e w' => ZPost D G k P cnt lo hi nm aM aN S w e w' := by
  go_enter Try.func21, Try.ntmps21
  go_wp2_with fail
  have h2 := two_alloc w (.cells #[.int .i64 D, .int .i64 ((G : Int) + 1), .int .i64 pg, .int .i64 ns, .slice aM nm nm, .slice aS ns ns, .slice aF (G + 2) (G + 2)] 54) (.cells #[.int .i64 0, .slice none 0 0, .slice aN nN nN, .slice none 0 0, .slice none 0 0, .slice none 0 0, .slice none 0 0, .slice none 0 0, .slice none 0 0, .slice none 0 0, .slice none 0 0, .slice none 0 0] 58)
  generalize hW2 : World.alloc (World.alloc w _) _ = W2 at *
  obtain ⟨hsz, hbl, hbp, hbg⟩ := h2
  clear hW2
  have hcp := fun o => cell_of_row W2 w.heap.size o _ _ _ hbp
  have hcg := fun o => cell_of_row W2 (w.heap.size + 1) o _ _ _ hbg
  have hfg := fun o => frozen_of_row W2 (w.heap.size + 1) o _ 58 hbg
  refine (read_any w.heap.size (w.heap.size + 1) D G pg ns nm k P cnt nN lo hi aM aS aF aN S F W2 hk hG hns hnm hnN hpg hGp hD1 hD2 hP hC hPC hlh hhn hSb hF0 hF1 ?_ (hS.below hbl) (hF.below hbl) ?_ ?_ ?_ hfg ?_ (by omega) ?_ ?_ ?_).mono ?_
  · exact ⟨hcp 0, hcp 1, hcp 2, hcp 3, hcp 4, hcp 5, hcp 6⟩
  · exact ⟨_, hcg 0⟩
  · exact ⟨_, hcg 1⟩
  · exact hcg 2
  · rcases hN with h | ⟨B, cur, e, hc, hs⟩
    · exact .inl h
    · exact .inr ⟨B, cur, e, (hbl.block B (lN B 0 e)).trans hc, hs⟩
  · intro B o e
    have h5 := lN B o e
    exact ⟨by omega, by omega, (hA B o e).1, (hA B o e).2⟩
  · intro b o e; have := lS b o e; omega
  · intro b o e; have := lF b o e; omega
  rintro e w1 ⟨rfl, R, c', hR, y0, y1, y2, hrow, hb0, hkeep⟩
  have HP : Hid (∀ m, ZPost D G k P cnt lo hi nm aM aN S w (.returned (.tuple #[.int .i64 (dvs D G k), .slice (some ⟨R, 0, none⟩) (cnt + 1) c', .slice (cutA aM lo nm) (hi - lo) (nm - lo)])) (w1.drewN m)) := fun m => by
    refine ⟨R, c', rfl, hR.imp (fun h => by omega) id, ?_, ?_, ?_⟩
    · exact hrow
    · exact drewN_below ((hbl.mono (Nat.zero_le _)).trans hb0) _
    · exact fun b hb hn => (hkeep b (by omega) (by omega) hn).trans (hbl.block b hb)
  clear hR hrow hb0 hkeep hcp hcg hfg hbp hbg hbl hS hF hN lS lF lN hA
  go_wp2_with fail
  go_quiet (fail)
  go_wp2_with fail
  go_ret3
  exact HP.out _
end Go.Proofs.Qxb6617152a
