import Derived.Test.Qxb6618949aMz
import Derived.Test.Qxb6618949aMr
import Derived.WalkKit
import Derived.WalkSpells
import Derived.WalkLawsBesides
import Derived.Deep.QuietTactic
import Derived.BigQuiet
import Derived.Laws.CopyOwn
import Derived.RegionTactic
import Derived.Deep.RegionHeld3
import Derived.BigRegion
import Derived.Deep.DeepCutAuto
namespace Go.Proofs.Qxb6618949a
open Go.RowKit
set_option linter.unusedVariables false
theorem info2 : (Try.prog.info? 2).map (fun i => (i.zero, i.size, i.bytes)) = some (some (.int .i64 0), 1, 8) := by kernel_rfl
theorem run_mk2 (n : Nat) (hn : n ≤ 1048576) (W : World) : (Instr.makeSlice 26 (.int .i64 n) (.int .i64 n)).run Try.prog W = .ok (.slice (some ⟨W.heap.size, 0, none⟩) n n) (W.alloc (.cells (List.replicate n (.int .i64 0)).toArray 2)) := by
  obtain ⟨i0, hi, hz0, hz1, hz2⟩ := info_parts info2
  rw [run_make W 26 2 i0 _ Try.underlying26 hi hz0 .i64 .i64 n n (by omega) (by omega) (by rw [hz2]; omega) (by omega), hz1]
  have e : madeCells (Value.int .i64 0).cells n = (List.replicate n (.int .i64 0)).toArray := by
    apply Array.toList_inj.1; rw [show (Value.int .i64 0).cells = #[.int .i64 0] from rfl, toList_madeCells_one]
  simp [e]
set_option maxHeartbeats 400000 in
theorem clone64_any (ad : Option Addr) (n c : Nat) (Z : Nat → Int) (w : World) (hn : n ≤ 1048576) (h : Row .i64 w ad n Z) (hnil : ad = none → n = 0) :
    Calls Try.prog 22 #[.slice ad n c] w fun e w' => Cloned 2 .i64 w n Z e w' := by
  cases ad with
  | none =>
    obtain rfl := hnil rfl
    have hnl : ∀ W : World, (binOp .eql 26 (.slice none 0 c) (.slice none 0 0)).run Try.prog W = .ok (.bool true) W := fun W => Lib.run_eql_slice_nil W 26 2 none 0 c 0 0 Try.underlying26
    go_enter Try.func22, Try.ntmps22
    go_wp2_with fail
    go_ret
    exact ⟨_, rfl, .inl ⟨rfl, rfl, rfl⟩, Below.refl _ _⟩
  | some x =>
    obtain ⟨L, hL⟩ : ∃ L, L = List.replicate n (Value.int .i64 0) := ⟨_, rfl⟩
    obtain ⟨CS, hCS⟩ : ∃ CS, CS = (List.range n).map fun i => Value.int .i64 (Z i) := ⟨_, rfl⟩
    have hmk : ∀ W : World, (Instr.makeSlice 26 (.int .i64 n) (.int .i64 n)).run Try.prog W = .ok (.slice (some ⟨W.heap.size, 0, none⟩) n n) (W.alloc (.cells L.toArray 2)) := fun W => by rw [hL]; exact run_mk2 n hn W
    have HL := hide hL
    have HCS := hide hCS
    have hlen : CS.length = Nat.min n n := by rw [hCS]; simp
    have hLl : L.length = n := by rw [hL]; simp
    have H1 : Hid (∀ v ∈ CS, v.oneCell' = true) := fun v hv => by
      rw [hCS] at hv; obtain ⟨i, _, rfl⟩ := List.mem_map.1 hv; rfl
    have HSRC : Hid (0 < CS.length → ∃ ad0, (some x : Option Addr) = some ad0 ∧ ∀ (j : Nat) (v : Value), CS[j]? = some v → (w.alloc (.cells L.toArray 2)).cell? (ad0.add j) = some v) := fun hpos => by
      refine ⟨x, rfl, fun j v hj => ?_⟩
      have hjn : j < n := by
        have := (List.getElem?_eq_some_iff.1 hj).1; rw [hlen] at this; simpa using this
      obtain ⟨b, off, e, hc⟩ := h j hjn
      obtain rfl := Option.some.inj e
      have ea : (Addr.mk b off none).add j = ⟨b, off + j, none⟩ := by unfold Addr.add; split <;> simp_all
      rw [ea, World.cell?_alloc_past _ _ _ (block_lt_of_cell hc), hc]
      rw [hCS] at hj
      simp [hjn] at hj
      rw [hj]
    have hfit : 0 + CS.length ≤ L.length := by rw [hlen, hLl]; simp
    clear hL hCS h hnil
    have hnl : ∀ W : World, (binOp .eql 26 (.slice (some x) n c) (.slice none 0 0)).run Try.prog W = .ok (.bool false) W := fun W => Lib.run_eql_slice_nil W 26 2 (some x) n c 0 0 Try.underlying26
    go_enter Try.func22, Try.ntmps22
    go_wp2_with (refine wpList_copy_splice rfl (.tmp 9) (.tmp 10) 26 26 rfl 2 Try.underlying26 (by kernel_rfl) _ _ _ _ _ _ rfl rfl w.heap.size 0 L 2 (heap_alloc_new _ _) CS hlen (fun hp => ⟨rfl, HSRC.out hp⟩) hfit H1.out w.heap.size w ((Below.refl _ _).alloc (Nat.le_refl _) _) (Nat.le_refl _) ?_; intro w2 hg2 hb2)
    go_ret
    exact cloned_mk hLl HCS.out hg2 hb2
/-- What a world holds on to. -/
def Ext (a b : World) : Prop := Below a.heap.size a b
theorem Ext.trans {a b c : World} (h : Ext a b) (k : Ext b c) : Ext a c := Below.trans h (Below.mono k (Below.size h))
theorem Ext.alloc (a : World) (O : Obj) : Ext a (a.alloc O) := (Below.refl _ _).alloc (Nat.le_refl _) _
theorem Ext.refl (a : World) : Ext a a := Below.refl _ _
theorem Ext.drew (a : World) (n : Nat) : Ext a (a.drewN n) := drewN_below (Below.refl _ _) n
theorem four_alloc (W : World) (a b c d : Obj) : ((((W.alloc a).alloc b).alloc c).alloc d).heap[W.heap.size + 1 + 1 + 1]? = some d ∧ ((((W.alloc a).alloc b).alloc c).alloc d).heap[W.heap.size]? = some a ∧ Ext W ((((W.alloc a).alloc b).alloc c).alloc d) := by
  refine ⟨?_, ?_, (((Ext.alloc W a).trans (Ext.alloc _ b)).trans (Ext.alloc _ c)).trans (Ext.alloc _ d)⟩
  · have h := heap_alloc_new (((W.alloc a).alloc b).alloc c) d
    have e : (((W.alloc a).alloc b).alloc c).heap.size = W.heap.size + 1 + 1 + 1 := by
      show (((W.heap.push a).push b).push c).size = _; simp
    rw [e] at h; exact h
  · have h := ((Ext.alloc (W.alloc a) b).trans (Ext.alloc _ c)).trans (Ext.alloc _ d)
    exact (Below.block h W.heap.size (by show _ < (W.heap.push a).size; simp)).trans (heap_alloc_new W a)
/-- A new Index. -/
def NewIx (W : World) (nm : Option Addr) (L wd n : Nat) (e : Ending) (W' : World) : Prop :=
  ∃ q bb, e = .returned (.pointer (some ⟨q, 0, none⟩)) ∧ W.heap.size ≤ q ∧ W.heap.size ≤ bb ∧ W'.cell? ⟨q, 2, none⟩ = some (.int .i64 wd) ∧ W'.cell? ⟨q, 7, none⟩ = some (.int .i64 n) ∧ W'.cell? ⟨q, 5, none⟩ = some (.slice (some ⟨bb, 0, none⟩) 1 1) ∧ W'.cell? ⟨bb, 0, none⟩ = some (.slice nm L L) ∧ Below W.heap.size W W'
set_option maxHeartbeats 800000 in
theorem newix_any (nm ao ac : Option Addr) (L wd n co nc cc : Nat) (W : World) :
    Calls Try.prog 21 #[.slice nm L L, .int .i64 wd, .slice ao n co, .slice ac nc cc] W fun e W' => NewIx W nm L wd n e W' := by
  go_enter Try.func21, Try.ntmps21
  go_wp2_with fail
  go_ret
  obtain ⟨g1, g2, g3⟩ := four_alloc W (.cells #[.slice nm L L] 25) (.cells #[.slice ao n co] 26) (.cells #[.slice ac nc cc] 29) (.cells #[.int .i64 0, .slice none 0 0, .int .i64 wd, .int .i64 n, .int .i64 n, .slice (some ⟨W.heap.size, 0, none⟩) 1 1, .int .i64 1, .int .i64 n, .int .i64 n, .slice (some ⟨W.heap.size + 1, 0, none⟩) 1 1, .int .i64 1, .int .i64 n, .int .i64 n, .slice (some ⟨W.heap.size + 1 + 1, 0, none⟩) 1 1] 67)
  exact ⟨_, _, rfl, by omega, Nat.le_refl _, cell_of_row _ _ 2 _ _ _ g1, cell_of_row _ _ 7 _ _ _ g1, cell_of_row _ _ 5 _ _ _ g1, cell_of_row _ _ 0 _ _ _ g2, g3⟩
end Go.Proofs.Qxb6618949a
