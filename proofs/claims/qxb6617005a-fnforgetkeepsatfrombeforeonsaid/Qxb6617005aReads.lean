import Derived.Test.Qxb6617005aSearch
import Derived.WalkKit
import Derived.WalkSpells
import Derived.WalkLawsBesides
import Derived.Deep.QuietTactic
import Derived.BigQuiet
import Derived.Deep.RegionHeld3
namespace Go.Proofs.Qxb6617005a
open Go.RowKit
/-- The law's argument: a slice of Spans, nil or not. -/
def SP (w : World) (ad : Option Addr) (n : Nat) (A R : Nat → Int) : Prop := ∀ k, k < n → ∃ b off, ad = some ⟨b, off, none⟩ ∧ w.cell? ⟨b, off + k * 2, none⟩ = some (.int .u64 (A k)) ∧ w.cell? ⟨b, off + k * 2 + 1, none⟩ = some (.int .u64 (R k))
theorem SP.below {w W : World} {ad : Option Addr} {n : Nat} {A R : Nat → Int} (h : SP w ad n A R) (hb : Below w.heap.size w W) : SP W ad n A R := fun k hk => by
  obtain ⟨b, off, e, h1, h2⟩ := h k hk
  exact ⟨b, off, e, (hb.cell (block_lt_of_cell h1)).trans h1, (hb.cell (block_lt_of_cell h2)).trans h2⟩
def IsT (P : Prop) (e : Ending) : Prop := ∃ v : Bool, e = .returned (.bool v) ∧ (v = true → P)
def Sorted (A : Nat → Int) (n : Nat) : Prop := ∀ i, i + 1 < n → A i ≤ A (i + 1)
theorem Sorted.mono {A : Nat → Int} {n : Nat} (h : Sorted A n) : Mono A n := by
  intro i j hij hj
  induction j with
  | zero => have : i = 0 := by omega
            subst this; omega
  | succ j ih =>
    by_cases e : i = j + 1
    · subst e; omega
    · have := ih (by omega) (by omega); have := h j hj; omega

set_option maxHeartbeats 400000 in
theorem sorted_any (A R : Nat → Int) (ad : Option Addr) (n c : Nat) (w : World) (hn : n ≤ 65536) (h : SP w ad n A R) :
    Calls Try.prog 12 #[.slice ad n c] w fun e w' => IsT (Sorted A n) e ∧ Below w.heap.size w w' := by
  go_enter Try.func12, Try.ntmps12
  go_wp2_with fail
  go_loopw [3] (fun i wr => ∃ (k m : Nat), 1 ≤ k ∧ (k ≤ n ∨ k = 1) ∧ i = .int .i64 k ∧ wr = w.drewN m ∧ Hid (∀ i, i + 1 < k → A i ≤ A (i + 1))) (fun i _ => n - (intOf i).toNat)
  case atStart => exact ⟨1, 0, by omega, .inr rfl, rfl, (World.drewN_zero _).symm, fun i hi => by omega⟩
  case round =>
    obtain ⟨k, m, hk1, hk, rfl, rfl, hH⟩ := hrel
    by_cases hlt : k < n
    · obtain ⟨q, rfl⟩ : ∃ q, k = q + 1 := ⟨k - 1, by omega⟩
      obtain ⟨b, off, rfl, h0, _⟩ := h q (by omega)
      obtain ⟨b2, off2, e, h2, _⟩ := h (q + 1) (by omega)
      simp only [Option.some.injEq, Addr.mk.injEq, and_true] at e
      obtain ⟨rfl, rfl⟩ := e
      have hI1 : (0 : Int) ≤ (q : Int) := by omega
      have hI2 : (q : Int) < n := by omega
      have hI3 : (q : Int) + 1 < n := by omega
      clear h
      go_wp2_with fail
      go_quiet (fail)
      go_wp2_with fail
      · go_ret; exact ⟨⟨false, rfl, (fun h => by cases h)⟩, drewN_below (drewN_below (Below.refl _ _) _) _⟩
      · have hle : A q ≤ A (q + 1) := by assumption
        go_roundw
        case rel => exact ⟨q + 2, _, by omega, .inl (by omega), by go_num, rfl, fun i hi => by
          by_cases e : i = q
          · subst e; exact hle
          · exact hH.out i (by omega)⟩
        case measure => simp [intOf]; omega
    · clear h
      go_wp2_with fail
      go_ret
      exact ⟨⟨true, rfl, fun _ i hi => hH.out i (by omega)⟩, drewN_below (Below.refl _ _) _⟩

def AllBy (A R : Nat → Int) (n : Nat) (r : Int) : Prop := ∀ i, i < n → A i ≤ r ∧ R i ≤ r
set_option maxHeartbeats 400000 in
theorem allBy_any (A R : Nat → Int) (ad : Option Addr) (n c : Nat) (r : Int) (w : World) (hn : n ≤ 65536) (h : SP w ad n A R) :
    Calls Try.prog 13 #[.slice ad n c, .int .u64 r] w fun e w' => IsT (AllBy A R n r) e ∧ w' = w := by
  go_enter Try.func13, Try.ntmps13
  go_wp2_with fail
  go_loop [5] (fun i => ∃ (k : Nat), k ≤ n ∧ i = .int .i64 k ∧ Hid (∀ i, i < k → A i ≤ r ∧ R i ≤ r)) (fun i => n - (intOf i).toNat)
  case atStart => exact ⟨0, by omega, rfl, fun i hi => by omega⟩
  case round =>
    obtain ⟨k, hk, rfl, hH⟩ := hrel
    by_cases hlt : k < n
    · obtain ⟨b, off, rfl, h0, h1⟩ := h k hlt
      clear h
      go_wp2_with fail
      all_goals first
        | (go_ret; exact ⟨⟨false, rfl, (fun h => by cases h)⟩, rfl⟩)
        | (have hle : A k ≤ r ∧ R k ≤ r := by assumption
           go_round
           case rel => exact ⟨k + 1, by omega, by go_num, fun i hi => by
             by_cases e : i = k
             · subst e; exact hle
             · exact hH.out i (by omega)⟩
           case measure => simp [intOf]; omega)
    · clear h
      go_wp2_with fail
      go_ret
      exact ⟨⟨true, rfl, fun _ i hi => hH.out i (by omega)⟩, rfl⟩

def Ends (A R : Nat → Int) (n : Nat) : Prop := ∀ i, i < n → R i = 0 ∨ A i ≤ R i
set_option maxHeartbeats 400000 in
theorem ends_any (A R : Nat → Int) (ad : Option Addr) (n c : Nat) (w : World) (hn : n ≤ 65536) (h : SP w ad n A R) :
    Calls Try.prog 24 #[.slice ad n c] w fun e w' => IsT (Ends A R n) e ∧ Below w.heap.size w w' := by
  go_enter Try.func24, Try.ntmps24
  go_wp2_with fail
  go_loopw [3] (fun i wr => ∃ (k m : Nat), k ≤ n ∧ i = .int .i64 k ∧ wr = w.drewN m ∧ Hid (∀ i, i < k → R i = 0 ∨ A i ≤ R i)) (fun i _ => n - (intOf i).toNat)
  case atStart => exact ⟨0, 0, by omega, rfl, (World.drewN_zero _).symm, fun i hi => by omega⟩
  case round =>
    obtain ⟨k, m, hk, rfl, rfl, hH⟩ := hrel
    by_cases hlt : k < n
    · obtain ⟨b, off, rfl, h0, h1⟩ := h k hlt
      clear h
      have hI1 : (k : Int) < n := by omega
      by_cases hz : R k = 0
      · have hd : (R k != 0) = false := by simp [hz]
        have HZ := hide hz
        clear hz
        go_wp2_with fail
        go_quiet (fail)
        go_wp2_with fail
        go_roundw
        case rel => exact ⟨k + 1, _, by omega, by go_num, rfl, fun i hi => by
          by_cases e : i = k
          · subst e; exact .inl HZ.out
          · exact hH.out i (by omega)⟩
        case measure => simp [intOf]; omega
      · have hd : (R k != 0) = true := by simp [hz]
        have HZ := hide hz
        clear hz
        go_wp2_with fail
        go_quiet (fail)
        go_wp2_with fail
        · go_ret; exact ⟨⟨false, rfl, (fun h => by cases h)⟩, drewN_below (drewN_below (Below.refl _ _) _) _⟩
        · have hle : A k ≤ R k := by assumption
          go_roundw
          case rel => exact ⟨k + 1, _, by omega, by go_num, rfl, fun i hi => by
            by_cases e : i = k
            · subst e; exact .inr hle
            · exact hH.out i (by omega)⟩
          case measure => simp [intOf]; omega
    · clear h
      go_wp2_with fail
      go_ret
      exact ⟨⟨true, rfl, fun _ i hi => hH.out i (by omega)⟩, drewN_below (Below.refl _ _) _⟩

/-- Value i's reign covers r. -/
def Reigns (A R : Nat → Int) (n : Nat) (r : Int) (i : Nat) : Prop := A i ≤ r ∧ (i + 1 < n → r < A (i + 1)) ∧ (R i = 0 ∨ r < R i)
def StandsAt (A R : Nat → Int) (n : Nat) (r : Int) : Prop := ∃ i, i < n ∧ Reigns A R n r i
theorem rg1 {A R : Nat → Int} {n : Nat} {r : Int} {k : Nat} (h : r < A k) : ¬ Reigns A R n r k := fun hr => by have := hr.1; omega
theorem rg2 {A R : Nat → Int} {n : Nat} {r : Int} {k : Nat} (h1 : k + 1 < n) (h : A (k + 1) ≤ r) : ¬ Reigns A R n r k := fun hr => by have := hr.2.1 h1; omega
theorem rg3 {A R : Nat → Int} {n : Nat} {r : Int} {k : Nat} (h : (R k != 0) = true ∧ R k ≤ r) : ¬ Reigns A R n r k := fun hr => by have := hr.2.2; have := h.1; have := h.2; simp at *; omega
theorem rg4 {A R : Nat → Int} {n : Nat} {r : Int} {k : Nat} (h0 : A k ≤ r) (h1 : k + 1 < n → r < A (k + 1)) (h : R k = 0) : Reigns A R n r k := ⟨h0, h1, .inl h⟩
theorem rg5 {A R : Nat → Int} {n : Nat} {r : Int} {k : Nat} (h0 : A k ≤ r) (h1 : k + 1 < n → r < A (k + 1)) (h : (R k != 0) = false ∨ r < R k) : Reigns A R n r k := ⟨h0, h1, by simpa using h⟩
theorem rgs {A R : Nat → Int} {n : Nat} {r : Int} {k : Nat} (hH : Hid (∀ i, i < k → ¬ Reigns A R n r i)) (h : ¬ Reigns A R n r k) : Hid (∀ i, i < k + 1 → ¬ Reigns A R n r i) := fun i hi => by
  by_cases e : i = k
  · subst e; exact h
  · exact hH.out i (by omega)
def IsIff (P : Prop) (e : Ending) : Prop := ∃ v : Bool, e = .returned (.bool v) ∧ (v = true ↔ P)
set_option maxHeartbeats 400000 in
theorem stands_any (A R : Nat → Int) (ad : Option Addr) (n c : Nat) (r : Int) (w : World) (hn : n ≤ 65536) (h : SP w ad n A R) :
    Calls Try.prog 15 #[.slice ad n c, .int .u64 r] w fun e w' => IsIff (StandsAt A R n r) e ∧ w' = w := by
  go_enter Try.func15, Try.ntmps15
  go_wp2_with fail
  go_loop [5] (fun i => ∃ (k : Nat), k ≤ n ∧ i = .int .i64 k ∧ Hid (∀ i, i < k → ¬ Reigns A R n r i)) (fun i => n - (intOf i).toNat)
  case atStart => exact ⟨0, by omega, rfl, fun i hi => by omega⟩
  case round =>
    obtain ⟨k, hk, rfl, hH⟩ := hrel
    by_cases hlt : k < n
    · obtain ⟨b, off, rfl, h0, h1⟩ := h k hlt
      by_cases hnx : k + 1 < n
      · obtain ⟨b2, off2, e, h2, _⟩ := h (k + 1) (by omega)
        simp only [Option.some.injEq, Addr.mk.injEq, and_true] at e
        obtain ⟨rfl, rfl⟩ := e
        clear h
        go_wp2_with fail
        all_goals first
          | (go_ret; exact ⟨⟨true, rfl, fun _ => ⟨k, hlt, by first | exact rg4 (by assumption) (fun _ => by assumption) (by assumption) | exact rg5 (by assumption) (fun _ => by assumption) (by assumption)⟩, fun _ => rfl⟩, rfl⟩)
          | (have hR : ¬ Reigns A R n r k := by first | exact rg1 (by assumption) | exact rg2 hnx (by assumption) | exact rg3 (by assumption)
             go_round
             case rel => exact ⟨k + 1, by omega, by go_num, rgs hH hR⟩
             case measure => simp [intOf]; omega)
      · clear h
        go_wp2_with fail
        all_goals first
          | (go_ret; exact ⟨⟨true, rfl, fun _ => ⟨k, hlt, by first | exact rg4 (by assumption) (fun h => absurd h hnx) (by assumption) | exact rg5 (by assumption) (fun h => absurd h hnx) (by assumption)⟩, fun _ => rfl⟩, rfl⟩)
          | (have hR : ¬ Reigns A R n r k := by first | exact rg1 (by assumption) | exact rg3 (by assumption)
             go_round
             case rel => exact ⟨k + 1, by omega, by go_num, rgs hH hR⟩
             case measure => simp [intOf]; omega)
    · clear h
      go_wp2_with fail
      go_ret
      refine ⟨⟨false, rfl, (fun h => by cases h), fun ⟨i, hi, h⟩ => absurd h (hH.out i (by omega))⟩, rfl⟩

/-- Value i had ended by 'before'. -/
def Ended (A R : Nat → Int) (n : Nat) (t : Int) (i : Nat) : Prop := (i + 1 < n ∧ A (i + 1) ≤ t) ∨ (R i ≠ 0 ∧ R i ≤ t)
theorem IsIff.mk {P : Prop} {v : Bool} (h : v = true ↔ P) : IsIff P (.returned (.bool v)) := ⟨v, rfl, h⟩
theorem ended_iff {A R : Nat → Int} {n : Nat} {t : Int} {k : Nat} (_ : ¬ R k = 0) (h1 : ¬ (k + 1 < n ∧ A (k + 1) ≤ t)) : (R k != 0 && decide (R k ≤ t)) = true ↔ Ended A R n t k := by
  unfold Ended; simp only [Bool.and_eq_true, bne_iff_ne, decide_eq_true_eq]; exact ⟨fun h => .inr h, fun h => h.resolve_left h1⟩
set_option maxHeartbeats 400000 in
theorem ended_any (A R : Nat → Int) (ad : Option Addr) (n c k : Nat) (t : Int) (w : World) (hn : n ≤ 65536) (hk : k < n) (h : SP w ad n A R) :
    Calls Try.prog 36 #[.slice ad n c, .int .i64 k, .int .u64 t] w fun e w' => IsIff (Ended A R n t k) e ∧ w' = w := by
  obtain ⟨b, off, rfl, h0, h1⟩ := h k hk
  have hI1 : (k : Int) < n := by omega
  by_cases hnx : k + 1 < n
  · obtain ⟨b2, off2, e, h2, _⟩ := h (k + 1) (by omega)
    simp only [Option.some.injEq, Addr.mk.injEq, and_true] at e
    obtain ⟨rfl, rfl⟩ := e
    clear h
    go_enter Try.func36, Try.ntmps36
    go_wp2_with fail
    · go_ret; exact ⟨IsIff.mk (v := true) ⟨fun _ => .inl ⟨hnx, by assumption⟩, fun _ => rfl⟩, rfl⟩
    · have e1 : t < A (k + 1) := by assumption
      have e2 : R k = 0 := by assumption
      go_ret; exact ⟨IsIff.mk (v := false) ⟨(fun h => by cases h), fun h => by rcases h with h | h <;> omega⟩, rfl⟩
    · have e1 : t < A (k + 1) := by assumption
      have e2 : ¬ R k = 0 := by assumption
      go_ret; exact ⟨IsIff.mk (v := R k != 0 && decide (R k ≤ t)) (ended_iff e2 (fun h => by omega)), rfl⟩
  · clear h
    go_enter Try.func36, Try.ntmps36
    go_wp2_with fail
    · have e2 : R k = 0 := by assumption
      go_ret; exact ⟨IsIff.mk (v := false) ⟨(fun h => by cases h), fun h => by rcases h with h | h <;> omega⟩, rfl⟩
    · have e2 : ¬ R k = 0 := by assumption
      go_ret; exact ⟨IsIff.mk (v := R k != 0 && decide (R k ≤ t)) (ended_iff e2 (fun h => by omega)), rfl⟩

set_option maxHeartbeats 400000 in
theorem count_any (A R : Nat → Int) (ad : Option Addr) (n c e0 : Nat) (t : Int) (w : World) (hn : n ≤ 65536) (h : SP w ad n A R) (he0 : e0 ≤ n) (he : ∀ i, i < n → (Ended A R n t i ↔ i < e0)) :
    Calls Try.prog 25 #[.slice ad n c, .int .u64 t] w fun e w' => e = .returned (.int .i64 e0) ∧ w' = w := by
  go_enter Try.func25, Try.ntmps25
  go_wp2_with fail
  go_loop [5, 6] (fun x i => ∃ (k m : Nat), k ≤ n ∧ i = .int .i64 k ∧ x = .int .i64 m ∧ Hid (m = min k e0)) (fun _ i => n - (intOf i).toNat)
  case atStart => exact ⟨0, 0, by omega, rfl, rfl, by unfold Hid; omega⟩
  case round =>
    obtain ⟨k, m, hk, rfl, rfl, hH⟩ := hrel
    by_cases hlt : k < n
    · have HE := hide (ended_any A R ad n c k t w hn hlt h)
      have HI := hide (he k hlt)
      have hm : m ≤ k := by have := hH.out; omega
      clear h he
      by_cases hke : k < e0
      · go_wp2_with (go_at_call 36; refine HE.out.mono ?_; rintro e w' ⟨⟨v, rfl, hv⟩, rfl⟩; obtain rfl : v = true := hv.2 (HI.out.2 hke))
        go_round
        case rel => exact ⟨k + 1, m + 1, by omega, by go_num, by go_num, by have := hH.out; unfold Hid; omega⟩
        case measure => simp [intOf]; omega
      · go_wp2_with (go_at_call 36; refine HE.out.mono ?_; rintro e w' ⟨⟨v, rfl, hv⟩, rfl⟩; obtain rfl : v = false := (Bool.eq_false_iff.2 fun h => hke (HI.out.1 (hv.1 h))))
        go_round
        case rel => exact ⟨k + 1, m, by omega, by go_num, rfl, by have := hH.out; unfold Hid; omega⟩
        case measure => simp [intOf]; omega
    · clear h he
      go_wp2_with fail
      go_ret
      exact ⟨ret_int (by have := hH.out; omega), rfl⟩

theorem info47 : (Try.prog.info? 47).map (fun i => (i.zero, i.size, i.bytes)) = some (some (.agg #[.int .u8 0, .bool false, .nilIface, .int .u64 0, .int .u64 0]), 5, 40) := by kernel_rfl
/-- The cells of 'make(Values, n)'. -/
def mk (n : Nat) : Array Value := madeCells #[.int .u8 0, .bool false, .nilIface, .int .u64 0, .int .u64 0] (n * 5)
theorem mk_size (n : Nat) : (mk n).size = n * 5 := by simp [mk, madeCells]
theorem run_mk (n : Nat) (hn : n ≤ 65536) (W : World) : (Instr.makeSlice 33 (.int .i64 n) (.int .i64 n)).run Try.prog W = .ok (.slice (some ⟨W.heap.size, 0, none⟩) n n) (W.alloc (.cells (mk n) 47)) := by
  obtain ⟨i0, hi, hz0, hz1, hz2⟩ := info_parts info47
  rw [run_make W 33 47 i0 _ Try.underlying33 hi hz0 .i64 .i64 n n (by omega) (by omega) (by rw [hz2]; omega) (by omega), hz1]
  simp [mk, Value.cells]
set_option maxHeartbeats 400000 in
theorem span_any (a r : Int) (w : World) :
    Calls Try.prog 34 #[.int .u64 a, .int .u64 r] w fun e w' => e = .returned (.agg #[.int .u8 0, .bool false, .nilIface, .int .u64 a, .int .u64 r]) ∧ Below w.heap.size w w' := by
  go_enter Try.func34, Try.ntmps34
  go_wp2
  exact bodyPost_ret (v := .agg #[.int .u8 0, .bool false, .nilIface, .int .u64 a, .int .u64 r]) (by simp [results, Try.results34, go_sem]) rfl ⟨rfl, (Below.refl _ _).alloc (Nat.le_refl _) _⟩

theorem vs_step {w1 : World} {B k n : Nat} {cur : Array Value} {A R : Nat → Int} (hcur : w1.heap[B]? = some (.cells cur 47)) (hsz : cur.size = n * 5) (hk : k < n) (hvs : VS w1 (some ⟨B, 0, none⟩) k A R) :
    ∃ cur', (((((w1.setCell ⟨B, k * 5, none⟩ (.int .u8 0)).setCell ⟨B, k * 5 + 1, none⟩ (.bool false)).setCell ⟨B, k * 5 + 2, none⟩ .nilIface).setCell ⟨B, k * 5 + 3, none⟩ (.int .u64 (A k))).setCell ⟨B, k * 5 + 4, none⟩ (.int .u64 (R k))).heap[B]? = some (.cells cur' 47) ∧ cur'.size = n * 5 ∧
      VS (((((w1.setCell ⟨B, k * 5, none⟩ (.int .u8 0)).setCell ⟨B, k * 5 + 1, none⟩ (.bool false)).setCell ⟨B, k * 5 + 2, none⟩ .nilIface).setCell ⟨B, k * 5 + 3, none⟩ (.int .u64 (A k))).setCell ⟨B, k * 5 + 4, none⟩ (.int .u64 (R k))) (some ⟨B, 0, none⟩) (k + 1) A R := by
  have h5 := heap_setCell_same _ B (k * 5 + 4) _ 47 (.int .u64 (R k)) (heap_setCell_same _ B (k * 5 + 3) _ 47 (.int .u64 (A k)) (heap_setCell_same _ B (k * 5 + 2) _ 47 .nilIface (heap_setCell_same _ B (k * 5 + 1) _ 47 (.bool false) (heap_setCell_same w1 B (k * 5) cur 47 (.int .u8 0) hcur))))
  refine ⟨_, h5, by simp [hsz], fun q hq => ⟨B, 0, rfl, ?_⟩⟩
  unfold SpanAt
  simp only [Nat.zero_add]
  rw [cell_of_row _ _ _ _ _ _ h5, cell_of_row _ _ _ _ _ _ h5, cell_of_row _ _ _ _ _ _ h5, cell_of_row _ _ _ _ _ _ h5, cell_of_row _ _ _ _ _ _ h5]
  by_cases e : q = k
  · subst e
    refine ⟨?_, ?_, ?_, ?_, ?_⟩ <;> simp [Array.getElem?_setIfInBounds, hsz] <;> omega
  · obtain ⟨B', o', e', hs⟩ := hvs q (by omega)
    simp only [Option.some.injEq, Addr.mk.injEq, and_true] at e'
    obtain ⟨rfl, rfl⟩ := e'
    unfold SpanAt at hs
    simp only [Nat.zero_add] at hs
    rw [cell_of_row _ _ _ _ _ _ hcur, cell_of_row _ _ _ _ _ _ hcur, cell_of_row _ _ _ _ _ _ hcur, cell_of_row _ _ _ _ _ _ hcur, cell_of_row _ _ _ _ _ _ hcur] at hs
    have ne : ∀ i j, i < 5 → j < 5 → k * 5 + i ≠ q * 5 + j := fun i j hi hj => by omega
    have n0 : ∀ j, j < 5 → k * 5 ≠ q * 5 + j := fun j hj => by omega
    refine ⟨?_, ?_, ?_, ?_, ?_⟩
    · rw [Array.getElem?_setIfInBounds_ne (by omega), Array.getElem?_setIfInBounds_ne (by omega), Array.getElem?_setIfInBounds_ne (by omega), Array.getElem?_setIfInBounds_ne (by omega), Array.getElem?_setIfInBounds_ne (by omega)]; exact hs.1
    · rw [Array.getElem?_setIfInBounds_ne (ne 4 1 (by omega) (by omega)), Array.getElem?_setIfInBounds_ne (ne 3 1 (by omega) (by omega)), Array.getElem?_setIfInBounds_ne (ne 2 1 (by omega) (by omega)), Array.getElem?_setIfInBounds_ne (ne 1 1 (by omega) (by omega)), Array.getElem?_setIfInBounds_ne (n0 1 (by omega))]; exact hs.2.1
    · rw [Array.getElem?_setIfInBounds_ne (ne 4 2 (by omega) (by omega)), Array.getElem?_setIfInBounds_ne (ne 3 2 (by omega) (by omega)), Array.getElem?_setIfInBounds_ne (ne 2 2 (by omega) (by omega)), Array.getElem?_setIfInBounds_ne (ne 1 2 (by omega) (by omega)), Array.getElem?_setIfInBounds_ne (n0 2 (by omega))]; exact hs.2.2.1
    · rw [Array.getElem?_setIfInBounds_ne (ne 4 3 (by omega) (by omega)), Array.getElem?_setIfInBounds_ne (ne 3 3 (by omega) (by omega)), Array.getElem?_setIfInBounds_ne (ne 2 3 (by omega) (by omega)), Array.getElem?_setIfInBounds_ne (ne 1 3 (by omega) (by omega)), Array.getElem?_setIfInBounds_ne (n0 3 (by omega))]; exact hs.2.2.2.1
    · rw [Array.getElem?_setIfInBounds_ne (ne 4 4 (by omega) (by omega)), Array.getElem?_setIfInBounds_ne (ne 3 4 (by omega) (by omega)), Array.getElem?_setIfInBounds_ne (ne 2 4 (by omega) (by omega)), Array.getElem?_setIfInBounds_ne (ne 1 4 (by omega) (by omega)), Array.getElem?_setIfInBounds_ne (n0 4 (by omega))]; exact hs.2.2.2.2

set_option maxHeartbeats 800000 in
theorem build_any (A R : Nat → Int) (ad : Option Addr) (n c : Nat) (w : World) (hn : n ≤ 65536) (h : SP w ad n A R) :
    Calls Try.prog 14 #[.slice ad n c] w fun e w' => e = .returned (.slice (some ⟨w.heap.size, 0, none⟩) n n) ∧ (∃ cur, w'.heap[w.heap.size]? = some (.cells cur 47) ∧ cur.size = n * 5) ∧ VS w' (some ⟨w.heap.size, 0, none⟩) n A R ∧ Below w.heap.size w w' := by
  have hmk := run_mk n hn
  go_enter Try.func14, Try.ntmps14
  go_wp2_with fail
  clear hmk
  go_loopw [4] (fun i wr => ∃ (k : Nat) (cur : Array Value), k ≤ n ∧ i = .int .i64 k ∧ wr.heap[w.heap.size]? = some (.cells cur 47) ∧ cur.size = n * 5 ∧ VS wr (some ⟨w.heap.size, 0, none⟩) k A R ∧ Below w.heap.size w wr) (fun i _ => n - (intOf i).toNat)
  case atStart => exact ⟨0, mk n, by omega, rfl, heap_alloc_new _ _, mk_size n, (fun k hk => by omega), (Below.refl _ _).alloc (Nat.le_refl _) _⟩
  case round =>
    obtain ⟨k, cur, hk, rfl, hcur, hsz, hvs, hbel⟩ := hrel
    by_cases hlt : k < n
    · obtain ⟨b, off, rfl, h0, h1⟩ := h k hlt
      have hl0 : b < w.heap.size := block_lt_of_cell h0
      have g0 : wr.cell? ⟨b, off + k * 2, none⟩ = some (.int .u64 (A k)) := (hbel.cell hl0).trans h0
      have g1 : wr.cell? ⟨b, off + k * 2 + 1, none⟩ = some (.int .u64 (R k)) := (hbel.cell (block_lt_of_cell h1)).trans h1
      have hI1 : (k : Int) < n := by omega
      have hcell : ∀ j, j < 5 → ∃ v, wr.cell? ⟨w.heap.size, k * 5 + j, none⟩ = some v := fun j hj => ⟨cur[k * 5 + j], by rw [cell_of_row _ _ _ _ _ _ hcur]; simp⟩
      have hfr := fun i => frozen_of_row wr w.heap.size i cur 47 hcur
      obtain ⟨v0, d0⟩ := hcell 0 (by omega)
      obtain ⟨v1, d1⟩ := hcell 1 (by omega)
      obtain ⟨v2, d2⟩ := hcell 2 (by omega)
      obtain ⟨v3, d3⟩ := hcell 3 (by omega)
      obtain ⟨v4, d4⟩ := hcell 4 (by omega)
      rw [Nat.add_zero] at d0
      have hlw : w.heap.size < wr.heap.size := block_lt_of_cell d0
      have hne : ¬ b = w.heap.size := by omega
      have hne2 : ¬ w.heap.size = b := by omega
      have HC := hide (And.intro hcur (And.intro hsz (And.intro hvs hbel)))
      clear h h0 h1 hcell hcur hsz hvs hbel
      go_wp2_with fail
      go_region_held3 (fun W => W.cell? ⟨b, off + k * 2, none⟩ = some (.int .u64 (A k)) ∧ W.cell? ⟨b, off + k * 2 + 1, none⟩ = some (.int .u64 (R k))) (go_keep)
        ((go_at_call 34; refine (span_any _ _ _).mono ?_; rintro e w1 ⟨rfl, hb1⟩; have G0 := (hb1.cell (block_lt_of_cell g0)).trans g0; have G1 := (hb1.cell (block_lt_of_cell g1)).trans g1; have D0 := (hb1.cell hlw).trans d0; have D1 := (hb1.cell hlw).trans d1; have D2 := (hb1.cell hlw).trans d2; have D3 := (hb1.cell hlw).trans d3; have D4 := (hb1.cell hlw).trans d4; have F0 : ∀ i, w1.frozen? ⟨w.heap.size, i, none⟩ = false := (fun i => (hb1.frozen hlw).trans (hfr i))))
      go_wp2_with fail
      go_roundw
      case rel =>
        have hb1 : Below wr.heap.size wr w1 := ⟨hb1.os, hb1.tape, hb1.output, hb1.size, hb1.block⟩
        have hw1 : w1.heap[w.heap.size]? = some (.cells cur 47) := (hb1.block _ hlw).trans HC.out.1
        obtain ⟨cur', e1, e2, e3⟩ := vs_step (A := A) (R := R) hw1 HC.out.2.1 hlt (fun q hq => by
          obtain ⟨B, o, e, hs⟩ := HC.out.2.2.1 q hq
          simp only [Option.some.injEq, Addr.mk.injEq, and_true] at e
          obtain ⟨rfl, rfl⟩ := e
          exact ⟨_, _, rfl, hs.below hb1 hlw⟩)
        exact ⟨k + 1, cur', by omega, by go_num, e1, e2, e3, ((((((HC.out.2.2.2.trans (hb1.mono HC.out.2.2.2.size)).setCell (Nat.le_refl _) _).setCell (Nat.le_refl _) _).setCell (Nat.le_refl _) _).setCell (Nat.le_refl _) _).setCell (Nat.le_refl _) _)⟩
      case measure => simp [intOf]; omega
    · obtain rfl : k = n := by omega
      have HC := hide (And.intro hcur (And.intro hsz (And.intro hvs hbel)))
      clear h hcur hsz hvs hbel
      go_wp2_with fail
      go_ret
      exact ⟨rfl, ⟨cur, HC.out.1, HC.out.2.1⟩, HC.out.2.2.1, HC.out.2.2.2⟩
end Go.Proofs.Qxb6617005a
