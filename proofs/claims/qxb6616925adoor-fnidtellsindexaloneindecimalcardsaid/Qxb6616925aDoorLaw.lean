/-
  DERIVED. THE WALK OF THE LAW (function 3): whatever the arguments, it answers true and writes nothing that was there.
-/
import Derived.Test.Qxb6616925aDoorNames
import Derived.Test.Qxb6616925aDoorShelf
namespace Go.Proofs.Qxb6616925aDoor
open Go.RowKit Dec
/-- Some truth value is handed back. -/
def IsB (e : Ending) : Prop := ∃ v, e = .returned (.bool v)
theorem IsB.mk (v : Bool) : IsB (.returned (.bool v)) := ⟨v, rfl⟩
/-- The exported names: a slice of strings, nil or not. -/
def Names (w : World) (ad : Option Addr) (len : Nat) : Prop := ∀ k, k < len → ∃ b off s, ad = some ⟨b, off, none⟩ ∧ w.cell? ⟨b, off + k, none⟩ = some (.string s) ∧ s.size ≤ maxLen

set_option maxHeartbeats 400000 in
theorem bytes_any (a0 a1 a2 a4 a5 a6 a11 : Int) (h g bo : ByteArray) (pa : Bool) (ad : Option Addr) (len cap : Nat) (w : World)
    (hh : h.size ≤ maxLen) (hg : g.size ≤ maxLen) (hb : bo.size ≤ maxLen) (hl : len ≤ maxLen)
    (hc : Names w ad len) :
    Calls Tryd.prog 5 #[.int .i64 a0, .int .i64 a1, .int .i64 a2, .string h, .int .i64 a4, .int .i64 a5, .int .i64 a6, .slice ad len cap, .bool pa, .string g, .string bo, .int .i64 a11] w fun e w' => IsB e ∧ w' = w := by
  unfold maxLen at *
  go_enter Tryd.func5, Tryd.ntmps5
  go_wp2
  · go_ret; exact ⟨.mk _, rfl⟩
  · go_ret; exact ⟨.mk _, rfl⟩
  · go_ret; exact ⟨.mk _, rfl⟩
  · go_loop [25, 26] (fun z i => ∃ (k : Nat) (t : Int), k ≤ len ∧ i = .int .i64 k ∧ z = .int .i64 t ∧ 0 ≤ t ∧ t ≤ 1048576) (fun _ i => len - (intOf i).toNat)
    case atStart => exact ⟨0, _, by omega, rfl, rfl, by omega, by omega⟩
    case round =>
      obtain ⟨k, t, hk, rfl, rfl, t0, t1⟩ := hrel
      by_cases hlt : k < len
      · obtain ⟨b, off, S, rfl, hck, hsk⟩ := hc k hlt
        clear hc
        unfold maxLen at hsk
        go_wp2
        · go_ret; exact ⟨.mk _, rfl⟩
        · go_ret; exact ⟨.mk _, rfl⟩
        · go_round
          case rel => exact ⟨k + 1, _, by omega, by go_num, rfl, by omega, by omega⟩
          case measure => simp [intOf]; omega
      · go_wp2
        all_goals (go_ret; exact ⟨.mk _, rfl⟩)


set_option maxHeartbeats 400000 in
theorem withT (n ns a1 a2 a4 a5 : Int) (h g bo : ByteArray) (pa : Bool) (ad : Option Addr) (len cap : Nat) (w : World) :
    Calls Tryd.prog 6 #[.agg #[.int .i64 n, .int .i64 a1, .int .i64 a2, .string h, .int .i64 a4, .int .i64 a5, .int .i64 0, .slice ad len cap, .bool pa, .string g, .string bo], .int .i64 ns] w fun e w' => e = .returned (.agg #[.int .i64 n, .int .i64 a1, .int .i64 a2, .string h, .int .i64 a4, .int .i64 a5, .int .i64 ns, .slice ad len cap, .bool pa, .string g, .string bo]) ∧ Below w.heap.size w w' := by
  go_enter Tryd.func6, Tryd.ntmps6
  go_wp2
  exact bodyPost_ret (v := .agg #[.int .i64 n, .int .i64 a1, .int .i64 a2, .string h, .int .i64 a4, .int .i64 a5, .int .i64 ns, .slice ad len cap, .bool pa, .string g, .string bo]) (by simp [results, Tryd.results6, go_sem]) rfl ⟨rfl, ((Below.refl _ _).alloc (Nat.le_refl _) _).alloc (by simp) _⟩

theorem info27 : (Tryd.prog.info? 27).map (fun i => (i.zero, i.size, i.bytes)) = some (some (.agg #[.string ByteArray.empty, .int .i64 0]), 2, 24) := by kernel_rfl
/-- The cells of 'make([]Export, n)'. -/
def mk (n : Nat) : Array Value := madeCells #[.string ByteArray.empty, .int .i64 0] (n * 2)
theorem mk_size (n : Nat) : (mk n).size = n * 2 := by simp [mk, madeCells]
theorem run_mk (n : Nat) (hn : n ≤ 65536) (W : World) : (Instr.makeSlice 24 (.int .i64 n) (.int .i64 n)).run Tryd.prog W = .ok (.slice (some ⟨W.heap.size, 0, none⟩) n n) (W.alloc (.cells (mk n) 27)) := by
  obtain ⟨i0, hi, hz0, hz1, hz2⟩ := info_parts info27
  rw [run_make W 24 27 i0 _ Tryd.underlying24 hi hz0 .i64 .i64 n n (by omega) (by omega) (by rw [hz2]; omega) (by omega), hz1]
  simp [mk, Value.cells]

theorem hide {p : Prop} (h : p) : Hid p := h
theorem unhide {p : Prop} (h : Hid p) : p := h
theorem bcell {W w1 : World} (hb : Below W.heap.size W w1) : (∀ b o, b < W.heap.size → w1.cell? ⟨b, o, none⟩ = W.cell? ⟨b, o, none⟩) ∧ (∀ b o, b < W.heap.size → w1.frozen? ⟨b, o, none⟩ = W.frozen? ⟨b, o, none⟩) :=
  ⟨fun b o h => hb.cell (p := ⟨b, o, none⟩) h, fun b o h => hb.frozen (p := ⟨b, o, none⟩) h⟩
theorem calls_with {P : Program} {f : Nat} {args : Array Value} {W : World} {Q : Ending → World → Prop} {B : Nat} {w0 : World} (hB : Below B w0 W) (h : Below B w0 W → Calls P f args W Q) : Calls P f args W Q := h hB
theorem drewN_below {B : Nat} {a w : World} (h : Below B a w) (n : Nat) : Below B a (w.drewN n) := ⟨h.os, h.tape, h.output, h.size, h.block⟩
/-- What the walk is told of '(Block).ID'. -/
def IDs (w : World) : Prop := ∀ (n : Int) (c1 c2 c3 c4 c5 c6 c7 c8 c9 c10 : Value) (W : World), -9223372036854775808 ≤ n → n ≤ 9223372036854775807 → Below w.heap.size w W → Calls Tryd.prog 7 #[.agg #[.int .i64 n, c1, c2, c3, c4, c5, c6, c7, c8, c9, c10]] W fun e w' => e = .returned (.string (idOf n)) ∧ Below W.heap.size W w'
/-- What the walk is told of 'zzNamesIndex'. -/
def Namesx : Prop := ∀ (n : Int) (W : World), -9223372036854775808 ≤ n → n ≤ 9223372036854775807 → Calls Tryd.prog 8 #[.string (idOf n), .int .i64 n] W fun e w' => e = .returned (.bool true) ∧ ∃ k, w' = W.drewN k
set_option maxHeartbeats 1600000 in
theorem law_some (a0 a1 a2 a4 a5 a6 a11 : Int) (h g bo : ByteArray) (pa : Bool) (x : Addr) (len cap : Nat) (w : World)
    (hh : h.size ≤ maxLen) (hg : g.size ≤ maxLen) (hb : bo.size ≤ maxLen) (hl : len ≤ maxLen)
    (hc : ∀ k, k < len → ∃ ab ao s, x = ⟨ab, ao, none⟩ ∧ w.cell? ⟨ab, ao + k, none⟩ = some (.string s) ∧ s.size ≤ maxLen)
    (i0 : -9223372036854775808 ≤ a0) (i1 : a0 ≤ 9223372036854775807) (j0 : -9223372036854775808 ≤ a11) (j1 : a11 ≤ 9223372036854775807) (HI : IDs w) (HN : Namesx)
    (HB : Hid (Calls Tryd.prog 5 #[.int .i64 a0, .int .i64 a1, .int .i64 a2, .string h, .int .i64 a4, .int .i64 a5, .int .i64 a6, .slice (some x) len cap, .bool pa, .string g, .string bo, .int .i64 a11] w fun e w' => IsB e ∧ w' = w)) :
    Calls Tryd.prog 3 #[.int .i64 a0, .int .i64 a1, .int .i64 a2, .string h, .int .i64 a4, .int .i64 a5, .int .i64 a6, .slice (some x) len cap, .bool pa, .string g, .string bo, .int .i64 a11] w fun e w' => e = .returned (.bool true) ∧ Below w.heap.size w w' := by
  unfold maxLen at *
  by_cases h1 : h.size ≤ 65536 ∧ g.size ≤ 65536 ∧ bo.size ≤ 65536 ∧ len ≤ 65536
  · obtain ⟨b1, b2, b3, b4⟩ := h1
    clear hh hg hb hl
    have hmk := run_mk len b4
    go_enter Tryd.func3, Tryd.ntmps3
    go_wp2_with (go_at_call 5; refine HB.out.mono ?_; rintro e w' ⟨⟨v, rfl⟩, rfl⟩; cases v)
    · go_ret; exact ⟨rfl, Below.refl _ _⟩
    · go_loop [25, 26] (fun z i => ∃ (k : Nat) (t : Int), k ≤ len ∧ i = .int .i64 k ∧ z = .int .i64 t) (fun _ i => len - (intOf i).toNat)
      case atStart => exact ⟨0, _, by omega, rfl, rfl⟩
      case round =>
        obtain ⟨k, t, hk, rfl, rfl⟩ := hrel
        by_cases hlt : k < len
        · obtain ⟨ab, ao, S, rfl, hck, hsk⟩ := hc k hlt
          clear hc hmk
          go_wp2_with fail
          · go_ret; exact ⟨rfl, Below.refl _ _⟩
          · go_round
            case rel => exact ⟨k + 1, _, by omega, by go_num, rfl⟩
            case measure => simp [intOf]; omega
        · have hkl : k = len := by omega
          subst hkl
          clear hlt hk
          go_wp2_with fail
          clear hmk HB
          go_loopw [28] (fun i wr => ∃ (j : Nat) (cur : Array Value), j ≤ k ∧ i = .int .i64 j ∧ wr.heap[w'.heap.size]? = some (.cells cur 27) ∧ cur.size = k * 2 ∧ Below w'.heap.size w' wr) (fun i _ => k - (intOf i).toNat)
          case atStart => exact ⟨0, mk k, by omega, rfl, heap_alloc_new _ _, mk_size k, (Below.refl _ _).alloc (Nat.le_refl _) _⟩
          case round =>
            obtain ⟨j, cur, hj, rfl, hcur, hsz, hbel⟩ := hrel
            by_cases hlt : j < k
            · obtain ⟨ab, ao, S, rfl, hck, hsk⟩ := hc j hlt
              have hck2 : wr.cell? ⟨ab, ao + j, none⟩ = some (.string S) := (hbel.cell (block_lt_of_cell hck)).trans hck
              obtain ⟨v1, hc1⟩ : ∃ v, wr.cell? ⟨w'.heap.size, j * 2, none⟩ = some v := ⟨cur[j * 2], by rw [cell_of_row _ _ _ _ _ _ hcur]; simp⟩
              obtain ⟨v2, hc2⟩ : ∃ v, wr.cell? ⟨w'.heap.size, j * 2 + 1, none⟩ = some v := ⟨cur[j * 2 + 1], by rw [cell_of_row _ _ _ _ _ _ hcur]; simp⟩
              have hf1 := fun i => frozen_of_row wr w'.heap.size i cur 27 hcur
              clear hc hck
              have HC : Hid (wr.heap[w'.heap.size]? = some (.cells cur 27) ∧ cur.size = k * 2) := ⟨hcur, hsz⟩
              clear hcur hsz
              go_wp2_with fail
              go_roundw
              case rel => exact ⟨j + 1, _, by omega, by go_num, heap_setCell_same _ _ _ _ _ _ (heap_setCell_same _ _ _ _ _ _ HC.out.1), by simp only [Array.size_setIfInBounds]; exact HC.out.2, (hbel.setCell (Nat.le_refl _) _).setCell (Nat.le_refl _) _⟩
              case measure => simp [intOf]; omega
            · clear hc
              have hwr : w'.heap.size ≤ wr.heap.size := hbel.size
              have HBE : Hid (Below w'.heap.size w' wr) := hbel
              clear hbel hcur hsz
              go_wp2_with (first | (go_at_call 6; refine (withT _ _ _ _ _ _ _ _ _ _ _ _ _ _).mono ?_; rintro e w1 ⟨rfl, hb1⟩; obtain ⟨hc1, hf1⟩ := bcell hb1; have hz1 : wr.heap.size + 1 ≤ w1.heap.size := by (have := hb1.size; simpa using this)))
              refine calls_with (B := w'.heap.size) (w0 := w') ?_ fun hB1 => ?_
              · repeat (refine Below.setCell ?_ hwr _)
                exact (HBE.out.alloc hwr _).trans (hb1.mono (by simp; omega))
              have HB1 := hide hB1
              have hs1 := hB1.size
              refine (HI a0 _ _ _ _ _ _ _ _ _ _ _ i0 i1 hB1).mono ?_
              rintro e w2 ⟨rfl, hb2⟩
              clear hB1 hc1 hf1 hb1
              replace hb2 := (unhide HB1).trans (hb2.mono hs1)
              have HB2 := hide hb2
              have hs2 := hb2.size
              clear hb2 hs1
              go_wp2_with fail
              refine calls_with (B := w'.heap.size) (w0 := w') ((unhide HB2).alloc hs2 _) fun hB3 => ?_
              have hs3 := hB3.size
              refine (HI a11 _ _ _ _ _ _ _ _ _ _ _ j0 j1 hB3).mono ?_
              rintro e w3 ⟨rfl, hb3⟩
              replace hb3 := hB3.trans (hb3.mono hs3)
              have HB3 := hide hb3
              clear hb3 hB3 HB2 HB1 hs3
              go_wp2_with fail
              refine (HN a0 _ i0 i1).mono ?_
              rintro e w4 ⟨rfl, m4, rfl⟩
              go_wp2_with fail
              refine (HN a11 _ j0 j1).mono ?_
              rintro e w5 ⟨rfl, m5, rfl⟩
              have hids := ids_eq a0 a11
              go_wp2_with fail
              go_ret
              exact ⟨rfl, drewN_below (unhide HB3) _⟩
  · clear hc
    go_enter Tryd.func3, Tryd.ntmps3
    go_wp2_with (go_at_call 5; refine HB.out.mono ?_; rintro e w' ⟨⟨v, rfl⟩, rfl⟩; cases v)
    all_goals first | (go_ret; exact ⟨rfl, Below.refl _ _⟩) | (exfalso; omega)
set_option maxHeartbeats 1600000 in
theorem law_none (a0 a1 a2 a4 a5 a6 a11 : Int) (h g bo : ByteArray) (pa : Bool) (w : World)
    (hh : h.size ≤ maxLen) (hg : g.size ≤ maxLen) (hb : bo.size ≤ maxLen)
    (i0 : -9223372036854775808 ≤ a0) (i1 : a0 ≤ 9223372036854775807) (j0 : -9223372036854775808 ≤ a11) (j1 : a11 ≤ 9223372036854775807) (HI : IDs w) (HN : Namesx)
    (HB : Hid (Calls Tryd.prog 5 #[.int .i64 a0, .int .i64 a1, .int .i64 a2, .string h, .int .i64 a4, .int .i64 a5, .int .i64 a6, .slice none 0 0, .bool pa, .string g, .string bo, .int .i64 a11] w fun e w' => IsB e ∧ w' = w)) :
    Calls Tryd.prog 3 #[.int .i64 a0, .int .i64 a1, .int .i64 a2, .string h, .int .i64 a4, .int .i64 a5, .int .i64 a6, .slice none 0 0, .bool pa, .string g, .string bo, .int .i64 a11] w fun e w' => e = .returned (.bool true) ∧ Below w.heap.size w w' := by
  unfold maxLen at *
  by_cases h1 : h.size ≤ 65536 ∧ g.size ≤ 65536 ∧ bo.size ≤ 65536
  · obtain ⟨b1, b2, b3⟩ := h1
    clear hh hg hb
    go_enter Tryd.func3, Tryd.ntmps3
    go_wp2_with (go_at_call 5; refine HB.out.mono ?_; rintro e w' ⟨⟨v, rfl⟩, rfl⟩; cases v)
    · go_ret; exact ⟨rfl, Below.refl _ _⟩
    · go_loop [25, 26] (fun z i => ∃ (k : Nat) (t : Int), k ≤ 0 ∧ i = .int .i64 k ∧ z = .int .i64 t) (fun _ i => 0 - (intOf i).toNat)
      case atStart => exact ⟨0, _, by omega, rfl, rfl⟩
      case round =>
        obtain ⟨k, t, hk, rfl, rfl⟩ := hrel
        have hkl : k = 0 := by omega
        subst hkl
        clear hk
        have hwr : w'.heap.size ≤ w'.heap.size := Nat.le_refl _
        go_wp2_with (first | (go_at_call 6; refine (withT _ _ _ _ _ _ _ _ _ _ _ _ _ _).mono ?_; rintro e w1 ⟨rfl, hb1⟩; obtain ⟨hc1, hf1⟩ := bcell hb1; have hz1 : w'.heap.size + 1 ≤ w1.heap.size := by (have := hb1.size; simpa using this)))
        refine calls_with (B := w'.heap.size) (w0 := w') ?_ fun hB1 => ?_
        · refine Below.setCell ?_ hwr _; refine Below.setCell ?_ hwr _; refine Below.setCell ?_ hwr _; refine Below.setCell ?_ hwr _; refine Below.setCell ?_ hwr _; refine Below.setCell ?_ hwr _; refine Below.setCell ?_ hwr _; refine Below.setCell ?_ hwr _; refine Below.setCell ?_ hwr _; refine Below.setCell ?_ hwr _; refine Below.setCell ?_ hwr _
          exact ((Below.refl _ _).alloc (Nat.le_refl _) _).trans (hb1.mono (by simp))
        have HB1 := hide hB1
        have hs1 := hB1.size
        refine (HI a0 _ _ _ _ _ _ _ _ _ _ _ i0 i1 hB1).mono ?_
        rintro e w2 ⟨rfl, hb2⟩
        clear hB1 hc1 hf1 hb1
        replace hb2 := (unhide HB1).trans (hb2.mono hs1)
        have HB2 := hide hb2
        have hs2 := hb2.size
        clear hb2 hs1
        go_wp2_with fail
        refine calls_with (B := w'.heap.size) (w0 := w') ((unhide HB2).alloc hs2 _) fun hB3 => ?_
        have hs3 := hB3.size
        refine (HI a11 _ _ _ _ _ _ _ _ _ _ _ j0 j1 hB3).mono ?_
        rintro e w3 ⟨rfl, hb3⟩
        replace hb3 := hB3.trans (hb3.mono hs3)
        have HB3 := hide hb3
        clear hb3 hB3 HB2 HB1 hs3
        go_wp2_with fail
        refine (HN a0 _ i0 i1).mono ?_
        rintro e w4 ⟨rfl, m4, rfl⟩
        go_wp2_with fail
        refine (HN a11 _ j0 j1).mono ?_
        rintro e w5 ⟨rfl, m5, rfl⟩
        have hids := ids_eq a0 a11
        go_wp2_with fail
        go_ret
        exact ⟨rfl, drewN_below (unhide HB3) _⟩
  · go_enter Tryd.func3, Tryd.ntmps3
    go_wp2_with (go_at_call 5; refine HB.out.mono ?_; rintro e w' ⟨⟨v, rfl⟩, rfl⟩; cases v)
    all_goals first | (go_ret; exact ⟨rfl, Below.refl _ _⟩) | (exfalso; omega)

theorem id_any (n : Int) (c1 c2 c3 c4 c5 c6 c7 c8 c9 c10 : Value) (w : World) (s : ByteArray)
    (hit : ∀ W, Below w.heap.size w W → Calls Tryd.prog 11 #[.int .i64 n] W fun e w' => e = .returned (.string s) ∧ Below W.heap.size W w')
    (hs : s.size ≤ 100) :
    Calls Tryd.prog 7 #[.agg #[.int .i64 n, c1, c2, c3, c4, c5, c6, c7, c8, c9, c10]] w fun e w' => e = .returned (.string (ByteArray.mk #[98, 108, 111, 99, 107, 45] ++ s)) ∧ Below w.heap.size w w' := by
  go_enter Tryd.func7, Tryd.ntmps7
  go_wp2_with (go_at_call 11; refine (hit _ ((Below.refl _ _).alloc (Nat.le_refl _) _)).mono ?_; rintro e w' ⟨rfl, hb⟩)
  go_ret
  exact ⟨rfl, ((Below.refl _ _).alloc (Nat.le_refl _) _).trans (hb.mono (by simp))⟩
theorem itoa_size (n : Int) (h0 : -9223372036854775808 ≤ n) (h1 : n ≤ 9223372036854775807) : (Lib.itoa n).length ≤ 20 := by
  unfold Lib.itoa
  split
  · have := Dec.dec_len n.natAbs (by omega); simp only [List.length_cons]; omega
  · have := Dec.dec_len n.toNat (by omega); omega
/-- The listed variable's name, off the given row. -/
def powName : String := (Rows.fnIDTellsIndexAloneInDecimalRow.laid[2]?.map (·.1)).getD Rows.fnIDTellsIndexAloneInDecimalRow.spec
/-- strconv.Itoa by the shelf's contract. -/
theorem itoa_any (n : Int) (h0 : -9223372036854775808 ≤ n) (h1 : n ≤ 9223372036854775807) (w : World) (htab : Lib.TabIs Tryd.prog w powName .u64 Lib.pow10Tab) :
    Calls Tryd.prog 11 #[.int .i64 n] w fun e w' => e = .returned (.string ⟨(Lib.itoa n).toArray⟩) ∧ ∃ k os, w' = Sort.grow (w.drewN k) os := Any.strconv_Itoa Tryd.laysM171 n h0 h1 w htab
theorem tab_below {w W : World} (h : Below w.heap.size w W) (ht : Lib.TabIs Tryd.prog w powName .u64 Lib.pow10Tab) : Lib.TabIs Tryd.prog W powName .u64 Lib.pow10Tab := by
  unfold Lib.TabIs World.var? at *
  cases hg : Tryd.prog.globalNamed powName with
  | none => rw [hg] at ht; cases ht
  | some g =>
    rw [hg] at ht
    simp only [Option.bind_some] at ht ⊢
    have hlt : g < w.heap.size := by
      apply Decidable.byContradiction
      intro hn
      rw [Array.getElem?_eq_none (by omega)] at ht
      cases ht
    rw [h.block g hlt]; exact ht
theorem grow_below (W : World) (k : Nat) (os : Array Obj) : Below W.heap.size W (Sort.grow (W.drewN k) os) := by
  refine ⟨rfl, rfl, rfl, ?_, fun i hi => ?_⟩
  · show W.heap.size ≤ (W.heap ++ os).size
    rw [Array.size_append]; omega
  · show (W.heap ++ os)[i]? = W.heap[i]?
    rw [Array.getElem?_append_left hi]
theorem ids_any {w : World} (ht : Lib.TabIs Tryd.prog w powName .u64 Lib.pow10Tab) : IDs w := by
  intro n c1 c2 c3 c4 c5 c6 c7 c8 c9 c10 W h0 h1 hb
  refine id_any n c1 c2 c3 c4 c5 c6 c7 c8 c9 c10 W ⟨(Lib.itoa n).toArray⟩ (fun V hV => ?_) ?_
  · refine (itoa_any n h0 h1 V (tab_below (hb.trans (hV.mono hb.size)) ht)).mono fun e w' ⟨he, k, os, hw⟩ => ⟨he, ?_⟩
    rw [hw]; exact grow_below V k os
  · have := itoa_size n h0 h1
    show (Lib.itoa n).toArray.size ≤ 100
    simp only [List.size_toArray]; omega

/-- THE LAW's WALK. -/
theorem walk (a0 a1 a2 a4 a5 a6 a11 : Int) (h g bo : ByteArray) (pa : Bool) (ad : Option Addr) (len cap : Nat) (w : World)
    (hh : h.size ≤ maxLen) (hg : g.size ≤ maxLen) (hb : bo.size ≤ maxLen) (hl : len ≤ maxLen)
    (i0 : -9223372036854775808 ≤ a0) (i1 : a0 ≤ 9223372036854775807) (j0 : -9223372036854775808 ≤ a11) (j1 : a11 ≤ 9223372036854775807)
    (hc : Names w ad len) (hnil : ad = none → len = 0 ∧ cap = 0) (ht : Lib.TabIs Tryd.prog w powName .u64 Lib.pow10Tab) :
    Calls Tryd.prog 3 #[.int .i64 a0, .int .i64 a1, .int .i64 a2, .string h, .int .i64 a4, .int .i64 a5, .int .i64 a6, .slice ad len cap, .bool pa, .string g, .string bo, .int .i64 a11] w fun e w' => e = .returned (.bool true) ∧ Below w.heap.size w w' := by
  have HB := hide (bytes_any a0 a1 a2 a4 a5 a6 a11 h g bo pa ad len cap w hh hg hb hl hc)
  have HI := ids_any ht
  have HN : Namesx := fun n W h0 h1 => names_any n W h0 h1
  cases ad with
  | none =>
    obtain ⟨rfl, rfl⟩ := hnil rfl
    exact law_none a0 a1 a2 a4 a5 a6 a11 h g bo pa w hh hg hb i0 i1 j0 j1 HI HN HB
  | some x =>
    refine law_some a0 a1 a2 a4 a5 a6 a11 h g bo pa x len cap w hh hg hb hl (fun k hk => ?_) i0 i1 j0 j1 HI HN HB
    obtain ⟨b, off, s, e, h1, h2⟩ := hc k hk
    exact ⟨b, off, s, Option.some.inj e, h1, h2⟩
end Go.Proofs.Qxb6616925aDoor
