import Derived.Test.Qxb6617152aWf
import Derived.WalkKit
import Derived.WalkSpells
import Derived.WalkLawsBesides
import Derived.Deep.QuietTactic
import Derived.BigQuiet
import Derived.RegionTactic
import Derived.Laws.CopyOwn
namespace Go.Proofs.Qxb6617152a
open Go.RowKit
set_option linter.unusedVariables false
theorem info3 : (Try.prog.info? 3).map (fun i => (i.zero, i.size, i.bytes)) = some (some (.int .i64 0), 1, 8) := by kernel_rfl
theorem run_mk3 (n : Nat) (hn : n ≤ 65536) (W : World) : (Instr.makeSlice 33 (.int .i64 n) (.int .i64 n)).run Try.prog W = .ok (.slice (some ⟨W.heap.size, 0, none⟩) n n) (W.alloc (.cells (List.replicate n (.int .i64 0)).toArray 3)) := by
  obtain ⟨i0, hi, hz0, hz1, hz2⟩ := info_parts info3
  rw [run_make W 33 3 i0 _ Try.underlying33 hi hz0 .i64 .i64 n n (by omega) (by omega) (by rw [hz2]; omega) (by omega), hz1]
  have e : madeCells (Value.int .i64 0).cells n = (List.replicate n (.int .i64 0)).toArray := by
    apply Array.toList_inj.1; rw [show (Value.int .i64 0).cells = #[.int .i64 0] from rfl, toList_madeCells_one]
  simp [e]
set_option maxHeartbeats 400000 in
theorem cloneInt_any (ad : Option Addr) (n c : Nat) (Z : Nat → Int) (w : World) (hn : n ≤ 65536) (h : Row .i64 w ad n Z) (hnil : ad = none → n = 0) :
    Calls Try.prog 18 #[.slice ad n c] w fun e w' => Cloned 3 .i64 w n Z e w' := by
  cases ad with
  | none =>
    obtain rfl := hnil rfl
    have hnl : ∀ W : World, (binOp .eql 33 (.slice none 0 c) (.slice none 0 0)).run Try.prog W = .ok (.bool true) W := fun W => Lib.run_eql_slice_nil W 33 3 none 0 c 0 0 Try.underlying33
    go_enter Try.func18, Try.ntmps18
    go_wp2_with fail
    go_ret
    exact ⟨_, rfl, .inl ⟨rfl, rfl, rfl⟩, Below.refl _ _⟩
  | some x =>
    obtain ⟨L, hL⟩ : ∃ L, L = List.replicate n (Value.int .i64 0) := ⟨_, rfl⟩
    obtain ⟨CS, hCS⟩ : ∃ CS, CS = (List.range n).map fun i => Value.int .i64 (Z i) := ⟨_, rfl⟩
    have hmk : ∀ W : World, (Instr.makeSlice 33 (.int .i64 n) (.int .i64 n)).run Try.prog W = .ok (.slice (some ⟨W.heap.size, 0, none⟩) n n) (W.alloc (.cells L.toArray 3)) := fun W => by rw [hL]; exact run_mk3 n hn W
    have HL := hide hL
    have HCS := hide hCS
    have hlen : CS.length = Nat.min n n := by rw [hCS]; simp
    have hLl : L.length = n := by rw [hL]; simp
    have H1 : Hid (∀ v ∈ CS, v.oneCell' = true) := fun v hv => by
      rw [hCS] at hv; obtain ⟨i, _, rfl⟩ := List.mem_map.1 hv; rfl
    have HSRC : Hid (0 < CS.length → ∃ ad0, (some x : Option Addr) = some ad0 ∧ ∀ (j : Nat) (v : Value), CS[j]? = some v → (w.alloc (.cells L.toArray 3)).cell? (ad0.add j) = some v) := fun hpos => by
      refine ⟨x, rfl, fun j v hj => ?_⟩
      have hjn : j < n := by
        have := (List.getElem?_eq_some_iff.1 hj).1; rw [hlen] at this; simpa using this
      obtain ⟨b, off, e, hc⟩ := h j hjn
      obtain rfl := Option.some.inj e
      have ea : (Addr.mk b off none).add j = ⟨b, off + j, none⟩ := by unfold Addr.add; split <;> simp_all
      rw [ea, World.cell?_alloc_past _ _ _ (block_lt_of_cell hc), hc]
      rw [hCS] at hj
      simp [hjn] at hj
      rw [hj]
    have hfit : 0 + CS.length ≤ L.length := by rw [hlen, hLl]; simp
    clear hL hCS h hnil
    have hnl : ∀ W : World, (binOp .eql 33 (.slice (some x) n c) (.slice none 0 0)).run Try.prog W = .ok (.bool false) W := fun W => Lib.run_eql_slice_nil W 33 3 (some x) n c 0 0 Try.underlying33
    go_enter Try.func18, Try.ntmps18
    go_wp2_with (refine wpList_copy_splice rfl (.tmp 9) (.tmp 10) 33 33 rfl 3 Try.underlying33 (by kernel_rfl) _ _ _ _ _ _ rfl rfl w.heap.size 0 L 3 (heap_alloc_new _ _) CS hlen (fun hp => ⟨rfl, HSRC.out hp⟩) hfit H1.out w.heap.size w ((Below.refl _ _).alloc (Nat.le_refl _) _) (Nat.le_refl _) ?_; intro w2 hg2 hb2)
    go_ret
    exact cloned_mk hLl HCS.out hg2 hb2
theorem info21 : (Try.prog.info? 21).map (fun i => (i.zero, i.size, i.bytes)) = some (some (.int .i32 0), 1, 4) := by kernel_rfl
theorem run_mk21 (n : Nat) (hn : n ≤ 65536) (W : World) : (Instr.makeSlice 23 (.int .i64 n) (.int .i64 n)).run Try.prog W = .ok (.slice (some ⟨W.heap.size, 0, none⟩) n n) (W.alloc (.cells (List.replicate n (.int .i32 0)).toArray 21)) := by
  obtain ⟨i0, hi, hz0, hz1, hz2⟩ := info_parts info21
  rw [run_make W 23 21 i0 _ Try.underlying23 hi hz0 .i64 .i64 n n (by omega) (by omega) (by rw [hz2]; omega) (by omega), hz1]
  have e : madeCells (Value.int .i32 0).cells n = (List.replicate n (.int .i32 0)).toArray := by
    apply Array.toList_inj.1; rw [show (Value.int .i32 0).cells = #[.int .i32 0] from rfl, toList_madeCells_one]
  simp [e]
set_option maxHeartbeats 400000 in
theorem clone32_any (ad : Option Addr) (n c : Nat) (Z : Nat → Int) (w : World) (hn : n ≤ 65536) (h : Row .i32 w ad n Z) (hnil : ad = none → n = 0) :
    Calls Try.prog 8 #[.slice ad n c] w fun e w' => Cloned 21 .i32 w n Z e w' := by
  cases ad with
  | none =>
    obtain rfl := hnil rfl
    have hnl : ∀ W : World, (binOp .eql 23 (.slice none 0 c) (.slice none 0 0)).run Try.prog W = .ok (.bool true) W := fun W => Lib.run_eql_slice_nil W 23 21 none 0 c 0 0 Try.underlying23
    go_enter Try.func8, Try.ntmps8
    go_wp2_with fail
    go_ret
    exact ⟨_, rfl, .inl ⟨rfl, rfl, rfl⟩, Below.refl _ _⟩
  | some x =>
    obtain ⟨L, hL⟩ : ∃ L, L = List.replicate n (Value.int .i32 0) := ⟨_, rfl⟩
    obtain ⟨CS, hCS⟩ : ∃ CS, CS = (List.range n).map fun i => Value.int .i32 (Z i) := ⟨_, rfl⟩
    have hmk : ∀ W : World, (Instr.makeSlice 23 (.int .i64 n) (.int .i64 n)).run Try.prog W = .ok (.slice (some ⟨W.heap.size, 0, none⟩) n n) (W.alloc (.cells L.toArray 21)) := fun W => by rw [hL]; exact run_mk21 n hn W
    have HL := hide hL
    have HCS := hide hCS
    have hlen : CS.length = Nat.min n n := by rw [hCS]; simp
    have hLl : L.length = n := by rw [hL]; simp
    have H1 : Hid (∀ v ∈ CS, v.oneCell' = true) := fun v hv => by
      rw [hCS] at hv; obtain ⟨i, _, rfl⟩ := List.mem_map.1 hv; rfl
    have HSRC : Hid (0 < CS.length → ∃ ad0, (some x : Option Addr) = some ad0 ∧ ∀ (j : Nat) (v : Value), CS[j]? = some v → (w.alloc (.cells L.toArray 21)).cell? (ad0.add j) = some v) := fun hpos => by
      refine ⟨x, rfl, fun j v hj => ?_⟩
      have hjn : j < n := by
        have := (List.getElem?_eq_some_iff.1 hj).1; rw [hlen] at this; simpa using this
      obtain ⟨b, off, e, hc⟩ := h j hjn
      obtain rfl := Option.some.inj e
      have ea : (Addr.mk b off none).add j = ⟨b, off + j, none⟩ := by unfold Addr.add; split <;> simp_all
      rw [ea, World.cell?_alloc_past _ _ _ (block_lt_of_cell hc), hc]
      rw [hCS] at hj
      simp [hjn] at hj
      rw [hj]
    have hfit : 0 + CS.length ≤ L.length := by rw [hlen, hLl]; simp
    clear hL hCS h hnil
    have hnl : ∀ W : World, (binOp .eql 23 (.slice (some x) n c) (.slice none 0 0)).run Try.prog W = .ok (.bool false) W := fun W => Lib.run_eql_slice_nil W 23 21 (some x) n c 0 0 Try.underlying23
    go_enter Try.func8, Try.ntmps8
    go_wp2_with (refine wpList_copy_splice rfl (.tmp 9) (.tmp 10) 23 23 rfl 21 Try.underlying23 (by kernel_rfl) _ _ _ _ _ _ rfl rfl w.heap.size 0 L 21 (heap_alloc_new _ _) CS hlen (fun hp => ⟨rfl, HSRC.out hp⟩) hfit H1.out w.heap.size w ((Below.refl _ _).alloc (Nat.le_refl _) _) (Nat.le_refl _) ?_; intro w2 hg2 hb2)
    go_ret
    exact cloned_mk hLl HCS.out hg2 hb2

def IsB (e : Ending) : Prop := ∃ v, e = .returned (.bool v)
theorem IsB.mk (v : Bool) : IsB (.returned (.bool v)) := ⟨v, rfl⟩
set_option maxHeartbeats 400000 in
theorem bytes_any (D g0 pg0 ns0 k0 : Int) (aM aS aF aN : Option Addr) (nM cM nS cS nF cF nN cN : Nat) (w : World) (h1 : nM ≤ maxLen) (h2 : nS ≤ maxLen) (h3 : nF ≤ maxLen) (h4 : nN ≤ maxLen) :
    Calls Try.prog 14 #[.int .i64 D, .int .i64 g0, .int .i64 pg0, .int .i64 ns0, .slice aM nM cM, .slice aS nS cS, .slice aF nF cF, .int .i64 k0, .slice aN nN cN] w fun e w' => IsB e ∧ w' = w := by
  unfold maxLen at *
  go_enter Try.func14, Try.ntmps14
  go_wp2_with fail
  all_goals (go_ret; exact ⟨.mk _, rfl⟩)
set_option maxHeartbeats 400000 in
theorem fit_any (aM aS aF aN : Option Addr) (nM cM nS cS nF cF nN cN : Nat) (w : World) (h1 : nM ≤ maxLen) (h2 : nS ≤ maxLen) (h3 : nF ≤ maxLen) (h4 : nN ≤ maxLen) :
    Calls Try.prog 15 #[.slice aM nM cM, .slice aS nS cS, .slice aF nF cF, .slice aN nN cN] w fun e w' => IsT (nM ≤ 65536 ∧ nS ≤ 65536 ∧ nF ≤ 65536 ∧ nN ≤ 65536) e ∧ w' = w := by
  unfold maxLen at *
  by_cases h : nM ≤ 65536 ∧ nS ≤ 65536 ∧ nF ≤ 65536 ∧ nN ≤ 65536
  · obtain ⟨a1, a2, a3, a4⟩ := h
    go_enter Try.func15, Try.ntmps15
    go_wp2_with fail
    all_goals (go_ret; exact ⟨⟨_, rfl, fun _ => ⟨a1, a2, a3, a4⟩⟩, rfl⟩)
  · by_cases b1 : nM ≤ 65536
    · by_cases b2 : nS ≤ 65536
      · by_cases b3 : nF ≤ 65536
        · have b4 : ¬ nN ≤ 65536 := fun e => h ⟨b1, b2, b3, e⟩
          clear h
          go_enter Try.func15, Try.ntmps15
          go_wp2_with fail
          all_goals (go_ret; exact ⟨IsT.no, rfl⟩)
        · clear h
          go_enter Try.func15, Try.ntmps15
          go_wp2_with fail
          all_goals (go_ret; exact ⟨IsT.no, rfl⟩)
      · clear h
        go_enter Try.func15, Try.ntmps15
        go_wp2_with fail
        all_goals (go_ret; exact ⟨IsT.no, rfl⟩)
    · clear h
      go_enter Try.func15, Try.ntmps15
      go_wp2_with fail
      all_goals (go_ret; exact ⟨IsT.no, rfl⟩)
theorem ret_int {k : IntKind} {a b : Int} (h : a = b) : Ending.returned (.int k a) = .returned (.int k b) := by rw [h]
/-- How many devices group k has. -/
def dvs (D : Int) (G k : Nat) : Int := if k = G then D - 256 * k else 256
set_option maxHeartbeats 400000 in
theorem devs_any (D : Int) (G k : Nat) (w : World) (hk : k ≤ G) (hG : G ≤ 65536) (hD1 : 256 * (G : Int) < D) (hD2 : D ≤ 256 * (G : Int) + 256) :
    Calls Try.prog 20 #[.int .i64 D, .int .i64 ((G : Int) + 1), .int .i64 k] w fun e w' => e = .returned (.int .i64 (dvs D G k)) ∧ w' = w := by
  by_cases e : k = G
  · subst e
    go_enter Try.func20, Try.ntmps20
    go_wp2_with fail
    go_ret; exact ⟨ret_int (by unfold dvs; rw [if_pos rfl]), rfl⟩
  · have hd : ((k : Int) == (G : Int)) = false := by rw [beq_eq_false_iff_ne]; omega
    go_enter Try.func20, Try.ntmps20
    go_wp2_with fail
    go_ret; exact ⟨ret_int (by unfold dvs; rw [if_neg e]), rfl⟩
set_option maxHeartbeats 400000 in
theorem count_any (G pg ns k : Nat) (w : World) (hk : k ≤ G) (hG : G ≤ 65536) (hns : ns ≤ 65536) (hpg : 1 ≤ pg) (hGp : G * pg ≤ ns) :
    Calls Try.prog 19 #[.int .i64 ((G : Int) + 1), .int .i64 pg, .int .i64 ns, .int .i64 k] w fun e w' => e = .returned (.int .i64 ((bnd G pg ns (k + 1) : Int) - (bnd G pg ns k : Int))) ∧ w' = w := by
  obtain ⟨P, hP⟩ : ∃ P, P = bnd G pg ns k := ⟨_, rfl⟩
  have hPm : (k : Int) * (pg : Int) = (P : Int) := by rw [hP]; exact bnd_mul hk
  have hPn : P ≤ ns := by rw [hP]; exact bnd_le hGp (by omega)
  by_cases e : k = G
  · subst e
    have hq : Hid (bnd k pg ns (k + 1) = ns) := bnd_last
    rw [← hP, hq.out]
    clear hP
    go_enter Try.func19, Try.ntmps19
    go_wp2_with fail
    go_ret; exact ⟨rfl, rfl⟩
  · have hd : ((k : Int) == (G : Int)) = false := by rw [beq_eq_false_iff_ne]; omega
    have hq : Hid (bnd G pg ns (k + 1) = P + pg) := by rw [hP]; exact bnd_succ (by omega)
    rw [← hP, hq.out]
    clear hP
    go_enter Try.func19, Try.ntmps19
    go_wp2_with fail
    go_ret; exact ⟨ret_int (by omega), rfl⟩
theorem drewN_below {B : Nat} {a w : World} (h : Below B a w) (n : Nat) : Below B a (w.drewN n) := ⟨h.os, h.tape, h.output, h.size, h.block⟩
set_option maxHeartbeats 400000 in
theorem equal_any (a b : Option Addr) (n ca cb : Nat) (Z : Nat → Int) (w : World) (hn : n ≤ 65536) (ha : Row .u8 w a n Z) (hb : Row .u8 w b n Z) :
    Calls Try.prog 22 #[.slice a n ca, .slice b n cb] w fun e w' => e = .returned (.bool true) ∧ Below w.heap.size w w' := by
  go_enter Try.func22, Try.ntmps22
  go_wp2_with fail
  go_loopw [5] (fun i wr => ∃ (k m : Nat), k ≤ n ∧ i = .int .i64 k ∧ wr = w.drewN m) (fun i _ => n - (intOf i).toNat)
  case atStart => exact ⟨0, 0, by omega, rfl, (World.drewN_zero _).symm⟩
  case round =>
    obtain ⟨k, m, hk, rfl, rfl⟩ := hrel
    by_cases hlt : k < n
    · obtain ⟨b1, o1, rfl, h1⟩ := ha k hlt
      obtain ⟨b2, o2, rfl, h2⟩ := hb k hlt
      have hI : (k : Int) < n := by omega
      clear ha hb
      go_wp2_with fail
      go_quiet (fail)
      go_wp2_with fail
      go_roundw
      case rel => exact ⟨k + 1, _, by omega, by go_num, rfl⟩
      case measure => simp [intOf]; omega
    · clear ha hb
      go_wp2_with fail
      go_ret
      exact ⟨rfl, drewN_below (Below.refl _ _) _⟩
end Go.Proofs.Qxb6617152a
