import Derived.Test.Qxb6618949aRows
import Derived.WalkKit
import Derived.WalkSpells
import Derived.WalkLawsBesides
import Derived.Deep.QuietTactic
import Derived.BigQuiet
import Derived.Laws.CopyOwn
namespace Go.Proofs.Qxb6618949a
open Go.RowKit
set_option linter.unusedVariables false
theorem hide {p : Prop} (h : p) : Hid p := h
/-- A slice of numbers, nil or not. -/
def Row (k : IntKind) (w : World) (ad : Option Addr) (n : Nat) (Z : Nat → Int) : Prop := ∀ i, i < n → ∃ b off, ad = some ⟨b, off, none⟩ ∧ w.cell? ⟨b, off + i, none⟩ = some (.int k (Z i))
theorem Row.below {k : IntKind} {w W : World} {ad : Option Addr} {n : Nat} {Z : Nat → Int} (h : Row k w ad n Z) (hb : Below w.heap.size w W) : Row k W ad n Z := fun i hi => by
  obtain ⟨b, off, e, h1⟩ := h i hi
  exact ⟨b, off, e, (hb.cell (block_lt_of_cell h1)).trans h1⟩
/-- A copy in a new block (nil stays nil). -/
def Cloned (T : TypeId) (k : IntKind) (w : World) (n : Nat) (Z : Nat → Int) (e : Ending) (w' : World) : Prop :=
  ∃ ad', e = .returned (.slice ad' n n) ∧ ((ad' = none ∧ n = 0 ∧ w' = w) ∨ (ad' = some ⟨w.heap.size, 0, none⟩ ∧ ∃ cur, w'.heap[w.heap.size]? = some (.cells cur T) ∧ cur.size = n ∧ ∀ i, i < n → cur[i]? = some (.int k (Z i)))) ∧ Below w.heap.size w w'
theorem cloned_mk {T : TypeId} {k : IntKind} {w w' : World} {n : Nat} {Z : Nat → Int} {cur cs : List Value} (hc : cur.length = n) (hcs : cs = (List.range n).map fun i => Value.int k (Z i))
    (hg : Hid (w'.heap[w.heap.size]? = some (.cells (splice cur 0 cs).toArray T))) (hb : Below w.heap.size w w') : Cloned T k w n Z (.returned (.slice (some ⟨w.heap.size, 0, none⟩) n n)) w' := by
  have hl : cs.length = n := by rw [hcs]; simp
  have hs : splice cur 0 cs = cs := by
    rw [splice, List.take_zero, List.nil_append, Nat.zero_add, List.drop_of_length_le (by omega), List.append_nil]
  rw [hs] at hg
  refine ⟨_, rfl, .inr ⟨rfl, _, hg.out, by simpa using hl, fun i hi => ?_⟩, hb⟩
  rw [hcs]; simp [hi]
theorem info5 : (Try.prog.info? 5).map (fun i => (i.zero, i.size, i.bytes)) = some (some (.int .u8 0), 1, 1) := by kernel_rfl
theorem run_mk5 (n : Nat) (hn : n ≤ 1048576) (W : World) : (Instr.makeSlice 25 (.int .i64 n) (.int .i64 n)).run Try.prog W = .ok (.slice (some ⟨W.heap.size, 0, none⟩) n n) (W.alloc (.cells (List.replicate n (.int .u8 0)).toArray 5)) := by
  obtain ⟨i0, hi, hz0, hz1, hz2⟩ := info_parts info5
  rw [run_make W 25 5 i0 _ Try.underlying25 hi hz0 .i64 .i64 n n (by omega) (by omega) (by rw [hz2]; omega) (by omega), hz1]
  have e : madeCells (Value.int .u8 0).cells n = (List.replicate n (.int .u8 0)).toArray := by
    apply Array.toList_inj.1; rw [show (Value.int .u8 0).cells = #[.int .u8 0] from rfl, toList_madeCells_one]
  simp [e]
set_option maxHeartbeats 400000 in
theorem clone8_any (ad : Option Addr) (n c : Nat) (Z : Nat → Int) (w : World) (hn : n ≤ 1048576) (h : Row .u8 w ad n Z) (hnil : ad = none → n = 0) :
    Calls Try.prog 16 #[.slice ad n c] w fun e w' => Cloned 5 .u8 w n Z e w' := by
  cases ad with
  | none =>
    obtain rfl := hnil rfl
    have hnl : ∀ W : World, (binOp .eql 25 (.slice none 0 c) (.slice none 0 0)).run Try.prog W = .ok (.bool true) W := fun W => Lib.run_eql_slice_nil W 25 5 none 0 c 0 0 Try.underlying25
    go_enter Try.func16, Try.ntmps16
    go_wp2_with fail
    go_ret
    exact ⟨_, rfl, .inl ⟨rfl, rfl, rfl⟩, Below.refl _ _⟩
  | some x =>
    obtain ⟨L, hL⟩ : ∃ L, L = List.replicate n (Value.int .u8 0) := ⟨_, rfl⟩
    obtain ⟨CS, hCS⟩ : ∃ CS, CS = (List.range n).map fun i => Value.int .u8 (Z i) := ⟨_, rfl⟩
    have hmk : ∀ W : World, (Instr.makeSlice 25 (.int .i64 n) (.int .i64 n)).run Try.prog W = .ok (.slice (some ⟨W.heap.size, 0, none⟩) n n) (W.alloc (.cells L.toArray 5)) := fun W => by rw [hL]; exact run_mk5 n hn W
    have HL := hide hL
    have HCS := hide hCS
    have hlen : CS.length = Nat.min n n := by rw [hCS]; simp
    have hLl : L.length = n := by rw [hL]; simp
    have H1 : Hid (∀ v ∈ CS, v.oneCell' = true) := fun v hv => by
      rw [hCS] at hv; obtain ⟨i, _, rfl⟩ := List.mem_map.1 hv; rfl
    have HSRC : Hid (0 < CS.length → ∃ ad0, (some x : Option Addr) = some ad0 ∧ ∀ (j : Nat) (v : Value), CS[j]? = some v → (w.alloc (.cells L.toArray 5)).cell? (ad0.add j) = some v) := fun hpos => by
      refine ⟨x, rfl, fun j v hj => ?_⟩
      have hjn : j < n := by
        have := (List.getElem?_eq_some_iff.1 hj).1; rw [hlen] at this; simpa using this
      obtain ⟨b, off, e, hc⟩ := h j hjn
      obtain rfl := Option.some.inj e
      have ea : (Addr.mk b off none).add j = ⟨b, off + j, none⟩ := by unfold Addr.add; split <;> simp_all
      rw [ea, World.cell?_alloc_past _ _ _ (block_lt_of_cell hc), hc]
      rw [hCS] at hj
      simp [hjn] at hj
      rw [hj]
    have hfit : 0 + CS.length ≤ L.length := by rw [hlen, hLl]; simp
    clear hL hCS h hnil
    have hnl : ∀ W : World, (binOp .eql 25 (.slice (some x) n c) (.slice none 0 0)).run Try.prog W = .ok (.bool false) W := fun W => Lib.run_eql_slice_nil W 25 5 (some x) n c 0 0 Try.underlying25
    go_enter Try.func16, Try.ntmps16
    go_wp2_with (refine wpList_copy_splice rfl (.tmp 9) (.tmp 10) 25 25 rfl 5 Try.underlying25 (by kernel_rfl) _ _ _ _ _ _ rfl rfl w.heap.size 0 L 5 (heap_alloc_new _ _) CS hlen (fun hp => ⟨rfl, HSRC.out hp⟩) hfit H1.out w.heap.size w ((Below.refl _ _).alloc (Nat.le_refl _) _) (Nat.le_refl _) ?_; intro w2 hg2 hb2)
    go_ret
    exact cloned_mk hLl HCS.out hg2 hb2
theorem wrap_same {x : Int} (h0 : -9223372036854775808 ≤ x) (h1 : x ≤ 9223372036854775807) : IntKind.i64.wrap x = x := by rw [IntKind.wrap_i64]; omega
theorem add_none (b o l : Nat) : (Addr.mk b o none).add l = ⟨b, o + l, none⟩ := by unfold Addr.add; split <;> simp_all
theorem size25 (W : World) : (sizeOf (Try.prog.elem 25)).run Try.prog W = .ok 1 W := by kernel_rfl
theorem run_cut (b o n c l h : Nat) (k1 k2 : IntKind) (x y : Int) (hx : x = l) (hy : y = h) (h1 : l ≤ h) (h2 : h ≤ c) (h3 : l < c) (W : World) :
    (Instr.slice 25 (.slice (some ⟨b, o, none⟩) n c) (some (.int k1 x)) (some (.int k2 y)) none).run Try.prog W = .ok (.slice (some ⟨b, o + l, none⟩) (h - l) (c - l)) W := by
  subst hx hy
  rw [run_slice_lh W 25 (some ⟨b, o, none⟩) n c Try.underlying25 k1 k2 l h (by omega) (by omega) (by omega), size25]
  have e : ¬ c = l := by omega
  simp [Result.andThen, sliced, e, add_none]
theorem run_cut3 (b o n c l h : Nat) (x y z : Int) (hx : x = l) (hy : y = h) (hz : z = h) (h1 : l < h) (h2 : h ≤ c) (W : World) :
    (Instr.slice 25 (.slice (some ⟨b, o, none⟩) n c) (some (.int .i64 x)) (some (.int .i64 y)) (some (.int .i64 z))).run Try.prog W = .ok (.slice (some ⟨b, o + l, none⟩) (h - l) (h - l)) W := by
  subst hx hy hz
  rw [run_slice_lhm W 25 (some ⟨b, o, none⟩) n c Try.underlying25 .i64 .i64 .i64 l h h (by omega) (by omega) (by omega) (by omega), size25]
  have e : ¬ h = l := by omega
  simp [Result.andThen, sliced, e, add_none]
theorem run_mask (i : Nat) (hi : i < 16384) (W : World) : (binOp .and 3 (.int .i64 i) (.int .i64 16383)).run Try.prog W = .ok (.int .i64 i) W := by
  have hb : (BitVec.ofInt 64 (i : Int) &&& BitVec.ofInt 64 (16383 : Int)).toNat = i := by
    rw [BitVec.toNat_and]
    have h1 : (BitVec.ofInt 64 (i : Int)).toNat = i := by simp; omega
    have h2 : (BitVec.ofInt 64 (16383 : Int)).toNat = 2 ^ 14 - 1 := by decide
    rw [h1, h2, Nat.and_two_pow_sub_one_eq_mod]; omega
  show Result.ok (Value.int .i64 (IntKind.i64.wrap ((BitVec.ofInt 64 (i : Int) &&& BitVec.ofInt 64 (16383 : Int)).toNat : Nat))) W = _
  rw [hb, wrap_same (by omega) (by omega)]
theorem run_shift (i : Nat) (hi : i < 16384) (W : World) : (binOp .shr 3 (.int .i64 i) (.int .u64 14)).run Try.prog W = .ok (.int .i64 0) W := by
  have hd : (i : Int).fdiv (2 ^ 14) = 0 := by rw [Int.fdiv_eq_ediv_of_nonneg _ (by decide)]; omega
  show Result.ok (Value.int .i64 ((i : Int).fdiv (2 ^ 14))) W = _
  rw [hd]
/-- The order of two rows of m bytes. -/
def IsLex (X Y : Nat → Int) (m : Nat) (v : Int) : Prop :=
  (v = 0 ∧ ∀ i, i < m → X i = Y i) ∨ (v = -1 ∧ ∃ i, i < m ∧ (∀ j, j < i → X j = Y j) ∧ X i < Y i) ∨ (v = 1 ∧ ∃ i, i < m ∧ (∀ j, j < i → X j = Y j) ∧ Y i < X i)
theorem IsLex.unique {X Y : Nat → Int} {m : Nat} {u v : Int} (hu : IsLex X Y m u) (hv : IsLex X Y m v) : u = v := by
  rcases hu with ⟨rfl, h⟩ | ⟨rfl, i, hi, he, hl⟩ | ⟨rfl, i, hi, he, hl⟩ <;> rcases hv with ⟨rfl, h'⟩ | ⟨rfl, i', hi', he', hl'⟩ | ⟨rfl, i', hi', he', hl'⟩
  · rfl
  · have := h i' hi'; omega
  · have := h i' hi'; omega
  · have := h' i hi; omega
  · rfl
  · rcases Nat.lt_trichotomy i i' with g | g | g
    · have := he' i g; omega
    · subst g; omega
    · have := he i' g; omega
  · have := h' i hi; omega
  · rcases Nat.lt_trichotomy i i' with g | g | g
    · have := he' i g; omega
    · subst g; omega
    · have := he i' g; omega
  · rfl
theorem IsLex.congr {X Y X' Y' : Nat → Int} {m : Nat} {v : Int} (h : IsLex X Y m v) (hx : ∀ i, i < m → X i = X' i) (hy : ∀ i, i < m → Y i = Y' i) : IsLex X' Y' m v := by
  rcases h with ⟨rfl, h⟩ | ⟨rfl, i, hi, he, hl⟩ | ⟨rfl, i, hi, he, hl⟩
  · exact .inl ⟨rfl, fun i hi => by rw [← hx i hi, ← hy i hi]; exact h i hi⟩
  · exact .inr (.inl ⟨rfl, i, hi, fun j hj => by rw [← hx j (by omega), ← hy j (by omega)]; exact he j hj, by rw [← hx i hi, ← hy i hi]; exact hl⟩)
  · exact .inr (.inr ⟨rfl, i, hi, fun j hj => by rw [← hx j (by omega), ← hy j (by omega)]; exact he j hj, by rw [← hx i hi, ← hy i hi]; exact hl⟩)
def RetLex (X Y : Nat → Int) (m : Nat) (e : Ending) : Prop := ∃ v, e = .returned (.int .i64 v) ∧ IsLex X Y m v
set_option maxHeartbeats 800000 in
theorem lex_any (a b : Option Addr) (n ca cb : Nat) (X Y : Nat → Int) (w : World) (hn : n ≤ 1048576) (ha : Row .u8 w a n X) (hb : Row .u8 w b n Y) :
    Calls Try.prog 12 #[.slice a n ca, .slice b n cb] w fun e w' => RetLex X Y n e ∧ ∃ m, w' = w.drewN m := by
  go_enter Try.func12, Try.ntmps12
  go_wp2_with fail
  go_loopw [6] (fun i wr => ∃ (k m : Nat), k ≤ n ∧ i = .int .i64 k ∧ wr = w.drewN m ∧ Hid (∀ j, j < k → X j = Y j)) (fun i _ => n - (intOf i).toNat)
  case atStart => exact ⟨0, 0, by omega, rfl, (World.drewN_zero _).symm, fun j hj => by omega⟩
  case round =>
    obtain ⟨k, m, hk, rfl, rfl, heq⟩ := hrel
    by_cases hlt : k < n
    · obtain ⟨b1, o1, rfl, c1⟩ := ha k hlt
      obtain ⟨b2, o2, rfl, c2⟩ := hb k hlt
      obtain ⟨x, hx⟩ : ∃ x, x = X k := ⟨_, rfl⟩
      obtain ⟨y, hy⟩ : ∃ y, y = Y k := ⟨_, rfl⟩
      rw [← hx] at c1
      rw [← hy] at c2
      have HX := hide (And.intro hx hy)
      have k1 : (k : Int) < (n : Int) := by omega
      clear ha hb hx hy
      rcases Int.lt_trichotomy x y with g | g | g
      · go_wp2_with fail
        go_quiet (fail)
        go_wp2
        go_ret
        exact ⟨⟨_, rfl, .inr (.inl ⟨rfl, k, hlt, heq.out, by rw [← HX.out.1, ← HX.out.2]; exact g⟩)⟩, _, by simp only [World.drewN_drewN]; rfl⟩
      · subst g
        go_wp2_with fail
        go_quiet (fail)
        go_wp2_with fail
        go_quiet (fail)
        go_wp2_with fail
        go_roundw
        case rel => exact ⟨k + 1, _, by omega, by go_num, rfl, fun j hj => by
          by_cases h : j < k
          · exact heq.out j h
          · obtain rfl : j = k := by omega
            rw [← HX.out.1, ← HX.out.2]⟩
        case measure => simp [intOf]; omega
      · have g2 : ¬ x < y := by omega
        go_wp2_with fail
        go_quiet (fail)
        go_wp2_with fail
        go_quiet (fail)
        go_wp2
        go_ret
        exact ⟨⟨_, rfl, .inr (.inr ⟨rfl, k, hlt, heq.out, by rw [← HX.out.1, ← HX.out.2]; exact g⟩)⟩, _, by simp only [World.drewN_drewN]; rfl⟩
    · obtain rfl : n = k := by omega
      go_wp2
      go_ret
      exact ⟨⟨_, rfl, .inl ⟨rfl, heq.out⟩⟩, _, rfl⟩
end Go.Proofs.Qxb6618949a
