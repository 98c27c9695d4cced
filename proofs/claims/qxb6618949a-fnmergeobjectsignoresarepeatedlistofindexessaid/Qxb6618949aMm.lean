import Derived.Test.Qxb6618949aMa
import Derived.Deep.AppendLies
import Derived.WalkKit
import Derived.WalkSpells
import Derived.WalkLawsBesides
import Derived.Deep.QuietTactic
import Derived.BigQuiet
import Derived.Deep.DeepCutAuto
namespace Go.Proofs.Qxb6618949a
open Go.RowKit
set_option linter.unusedVariables false
theorem info50 : (Try.prog.info? 50).map (fun i => (i.zero, i.size, i.bytes)) = some (some (.agg #[.int .u32 0, .int .u32 0]), 2, 8) := by kernel_rfl
/-- What the first loop has gathered. -/
def Gath (w wr : World) (ax : Option Addr) (wd K cK i : Nat) (N : Nat → Nat) (X : Nat → Nat → Int) (v : Value) : Prop :=
  ∃ n E, wr.heap[w.heap.size]? = some (.cells #[.slice ax K cK, v] 70) ∧ wr.ownsRow (w.heap.size + 1) 50 2 v n (ecells E n) ∧ (tab wd i N X).Cont (fun _ => 0) n E ∧ n ≤ i ∧ Below w.heap.size w wr
theorem own_ne {w : World} {base n : Nat} {v : Value} {xs : List Value} (h : w.ownsRow base 50 2 v n xs) {b : Nat} (hb : b < base) : some b ≠ v.ownBlock := fun e => by
  have := (h.lt b e.symm).1; omega
/-- The heap's struct, behind the append. -/
theorem append_keeps {w wr w2 : World} {ax : Option Addr} {K cK n : Nat} {v : Value} {xs : List Value} {O : Obj} (g1 : wr.heap[w.heap.size]? = some (.cells #[.slice ax K cK, v] 70)) (hlt : w.heap.size < wr.heap.size)
    (ho : (wr.alloc O).ownsRow (w.heap.size + 1) 50 2 v n xs) (hg : (wr.alloc O).grownBy w2 v.ownBlock) : w2.heap[w.heap.size]? = some (.cells #[.slice ax K cK, v] 70) := by
  have hz : (wr.alloc O).heap.size = wr.heap.size + 1 := by show (wr.heap.push _).size = _; rw [Array.size_push]
  exact (hg.block _ (by omega) (own_ne ho (by omega))).trans ((heap_alloc_old wr O hlt).trans g1)
theorem append_below {w wr w2 : World} {n : Nat} {v : Value} {xs : List Value} {O : Obj} (hb : Below w.heap.size w wr)
    (ho : (wr.alloc O).ownsRow (w.heap.size + 1) 50 2 v n xs) (hg : (wr.alloc O).grownBy w2 v.ownBlock) : Below w.heap.size w w2 := by
  have h1 := hb.trans (((Below.refl _ _).alloc (Nat.le_refl _) O).mono hb.size)
  have h2 : Below w.heap.size (wr.alloc O) w2 := ⟨hg.os, hg.tape, hg.output, hg.size, fun k hk => hg.block k (by have := h1.size; omega) (own_ne ho (by omega))⟩
  exact h1.trans h2
theorem gath_step {w w2 : World} {ax : Option Addr} {wd K cK i n g cap : Nat} {N : Nat → Nat} {X : Nat → Nat → Int} {v : Value} {E : Nat → Nat × Nat} (g1 : w2.heap[w.heap.size]? = some (.cells #[.slice ax K cK, v] 70))
    (ho : w2.ownsRow (w.heap.size + 1) 50 2 (.slice (some ⟨g, 0, none⟩) (n + 1) cap) (n + 1) (ecells E n ++ [.int .u32 (i : Nat), .int .u32 0])) (hb : Below w.heap.size w w2) (hc : (tab wd i N X).Cont (fun _ => 0) n E) (hn : n ≤ i) (hp : 0 < N i) :
    Gath w (w2.setCell ⟨w.heap.size, 1, none⟩ (.slice (some ⟨g, 0, none⟩) (n + 1) cap)) ax wd K cK (i + 1) N X (.slice (some ⟨g, 0, none⟩) (n + 1) cap) := by
  refine ⟨n + 1, put E n (i, 0), ?_, ?_, cont_more hc hp, by omega, hb.setCell (Nat.le_refl _) _⟩
  · exact heap_setCell_same _ _ _ _ _ _ g1
  · have e := ecells_put E n i 0
    rw [show ((0 : Nat) : Int) = 0 from rfl] at e
    rw [e] at ho
    refine ho.kept (row := some w.heap.size) ⟨rfl, rfl, rfl, by simp [World.setCell], fun k hk hne => heap_setCell_other _ _ _ _ (fun e => hne (by rw [e]))⟩ (.inr ?_)
    exact fun e => (own_ne ho (show w.heap.size < w.heap.size + 1 by omega)) e.symm
theorem mk47 (c : Nat) (hc : c ≤ 8192) : ∃ L : Array Value, L.size = c * 2 ∧ ∀ W : World, (Instr.makeSlice 47 (.int .i64 0) (.int .i64 c)).run Try.prog W = .ok (.slice (some ⟨W.heap.size, 0, none⟩) 0 c) (W.alloc (.cells L 50)) := by
  obtain ⟨i0, hi, hz0, hz1, hz2⟩ := info_parts info50
  refine ⟨madeCells (Value.agg #[.int .u32 0, .int .u32 0]).cells (c * 2), ?_, fun W => ?_⟩
  · rw [size_madeCells]
  · have h := run_make W 47 50 i0 _ Try.underlying47 hi hz0 .i64 .i64 0 c (by omega) (by omega) (by rw [hz2]; omega) (by omega)
    rw [hz1, Int.toNat_natCast, Int.toNat_zero] at h
    exact h
/-- The merge in its midst. -/
def Main (w wr : World) (ax : Option Addr) (wd K cK : Nat) (N : Nat → Nat) (X : Nat → Nat → Int) (g m go co : Nat) (lv : Value) : Prop :=
  ∃ (p : Nat → Nat) (n : Nat) (F O : Nat → Nat × Nat) (ar : Option Addr) (c : Nat), g = rows N K - rows p K ∧ wr.heap[w.heap.size]? = some (.cells #[.slice ax K cK, .slice ar n c] 70) ∧
    (n = 0 ∨ ∃ R, ar = some ⟨R, 0, none⟩ ∧ w.heap.size + 1 ≤ R ∧ n ≤ c ∧ Ent wr R n F ∧ go ≠ R) ∧ wr.ownsRow (w.heap.size + 1) 50 2 (.slice (some ⟨go, 0, none⟩) m co) m (ecells O m) ∧
    (tab wd K N X).Cont p n F ∧ (tab wd K N X).HeapFrom F n 0 ∧ (tab wd K N X).Inv p m O ∧ m = (tab wd K N X).ct p K ∧ n ≤ K ∧
    (m = 0 ∨ ∃ B o, lv = .slice (some ⟨B, o, none⟩) wd wd ∧ ∀ t, t < wd → w.cell? ⟨B, o + t, none⟩ = some (.int .u8 (X (O (m - 1)).1 ((O (m - 1)).2 * wd + t)))) ∧ Below w.heap.size w wr
theorem own_zero {w : World} {base : Nat} {v : Value} {xs : List Value} (h : w.ownsRow base 50 2 v 0 xs) : ∃ ar c, v = .slice ar 0 c := by
  rcases h.2 with ⟨e, _⟩ | ⟨g, cap, cur, e, _⟩
  · exact ⟨_, _, e⟩
  · exact ⟨_, _, e⟩
/-- The heap in the midst of the merge. -/
def Heap (w wr : World) (ax : Option Addr) (K cK n : Nat) (E : Nat → Nat × Nat) : Prop :=
  ∃ ar c, wr.heap[w.heap.size]? = some (.cells #[.slice ax K cK, .slice ar n c] 70) ∧ (n = 0 ∨ ∃ R, ar = some ⟨R, 0, none⟩ ∧ w.heap.size + 1 ≤ R ∧ n ≤ c ∧ Ent wr R n E)
def Heaped (w wr : World) (ax : Option Addr) (wd K cK : Nat) (N : Nat → Nat) (X : Nat → Nat → Int) : Prop :=
  ∃ n E ar c, wr.heap[w.heap.size]? = some (.cells #[.slice ax K cK, .slice ar n c] 70) ∧ (n = 0 ∨ ∃ R, ar = some ⟨R, 0, none⟩ ∧ w.heap.size + 1 ≤ R ∧ n ≤ c ∧ Ent wr R n E) ∧
    (tab wd K N X).Cont (fun _ => 0) n E ∧ (tab wd K N X).HeapFrom E n 0 ∧ n ≤ K ∧ Below w.heap.size w wr
set_option maxHeartbeats 400000 in
theorem init_nil (Bh : Nat) (ax ar : Option Addr) (K cK c : Nat) (w : World) (h : w.heap[Bh]? = some (.cells #[.slice ax K cK, .slice ar 0 c] 70)) :
    Calls Try.prog 28 #[.iface 68 (.pointer (some ⟨Bh, 0, none⟩))] w fun e w' => e = .returned (.tuple #[]) ∧ w' = w := by
  have m1 := mLen ⟨Bh, 0, none⟩
  have H := hide h
  clear h
  go_enter Try.func28, Try.ntmps28
  go_wp2_with fail
  refine (hlen_any Bh ax ar K cK 0 c (fun _ => (0, 0)) w ⟨H.out, .inl rfl⟩).mono ?_
  rintro e w1 ⟨rfl, rfl⟩
  go_wp2_with fail
  go_loop [3] (fun x => x = .int .i64 (-1)) (fun _ => 0)
  case atStart => rfl
  case round =>
    obtain rfl := hrel
    go_wp2
    go_end0
    exact ⟨rfl, rfl⟩

theorem rows_zero : ∀ m, rows (fun _ => 0) m = 0
  | 0 => rfl
  | m + 1 => by simp only [rows]; rw [rows_zero m]
theorem main_start {w wc : World} {ax ar : Option Addr} {wd K cK n c : Nat} {N : Nat → Nat} {X : Nat → Nat → Int} {E : Nat → Nat × Nat} {Lz : Array Value} (hL : Lz.size = rows N K * 2) (hrK : rows N K ≤ 8192)
    (h1 : wc.heap[w.heap.size]? = some (.cells #[.slice ax K cK, .slice ar n c] 70)) (h2 : n = 0 ∨ ∃ R, ar = some ⟨R, 0, none⟩ ∧ w.heap.size + 1 ≤ R ∧ n ≤ c ∧ Ent wc R n E)
    (h3 : (tab wd K N X).Cont (fun _ => 0) n E) (h4 : (tab wd K N X).HeapFrom E n 0) (h5 : n ≤ K) (h6 : Below w.heap.size w wc) :
    Main w (wc.alloc (.cells Lz 50)) ax wd K cK N X (rows N K) 0 wc.heap.size (rows N K) (.slice none 0 0) := by
  have hlt : w.heap.size < wc.heap.size := by
    by_cases g : w.heap.size < wc.heap.size
    · exact g
    · rw [Array.getElem?_eq_none (by omega)] at h1; cases h1
  refine ⟨fun _ => 0, n, E, fun _ => (0, 0), ar, c, by rw [rows_zero]; omega, (heap_alloc_old wc _ hlt).trans h1, ?_, ?_, h3, h4, Tab.inv_zero _ _, (Tab.ct_zero _ _).symm, h5, .inl rfl, h6.trans (((Below.refl _ _).alloc (Nat.le_refl _) _).mono h6.size)⟩
  · rcases h2 with h2 | ⟨R, rfl, a, b, d⟩
    · exact .inl h2
    · refine .inr ⟨R, rfl, a, b, d.below ((Below.refl _ _).alloc (Nat.le_refl _) _), ?_⟩
      have := d.lt; omega
  · refine ⟨rfl, .inr ⟨wc.heap.size, rows N K, Lz, rfl, by omega, heap_alloc_new _ _, by omega, by unfold maxLen; omega, hL, by simp [ecells]⟩⟩
/-- What the merge gives. -/
def MPost (w : World) (T : Tab) (e : Ending) (w' : World) : Prop :=
  ∃ m go co O, e = .returned (.slice (some ⟨go, 0, none⟩) m co) ∧ Ent w' go m O ∧ T.Merged m O ∧ m ≤ 8192 ∧ Below w.heap.size w w'
/-- The least head is named. -/
structure Pre (w wx : World) (ax : Option Addr) (wd K cK : Nat) (N : Nat → Nat) (X : Nat → Nat → Int) (p : Nat → Nat) (n : Nat) (F O : Nat → Nat × Nat) (R c m go co k r bx : Nat) : Prop where
  hp : wx.heap[w.heap.size]? = some (.cells #[.slice ax K cK, .slice (some ⟨R, 0, none⟩) n c] 70)
  box : wx.heap[bx]? = some (.cells #[.int .u32 k, .int .u32 r] 50)
  hR : w.heap.size + 1 ≤ R
  hRb : R ≠ bx
  hgb : go ≠ bx
  hb : w.heap.size + 1 ≤ bx
  hnc : n ≤ c
  ent : Ent wx R n F
  hgo : go ≠ R
  own : wx.ownsRow (w.heap.size + 1) 50 2 (.slice (some ⟨go, 0, none⟩) m co) m (ecells O m)
  cont : (tab wd K N X).Cont p n F
  heap : (tab wd K N X).HeapFrom F n 0
  nK : n ≤ K
  n0 : 0 < n
  k0 : (F 0).1 = k
  r0 : p k = r
  bel : Below w.heap.size w wx
theorem Pre.lt {w wx : World} {ax : Option Addr} {wd K cK : Nat} {N : Nat → Nat} {X : Nat → Nat → Int} {p : Nat → Nat} {n : Nat} {F O : Nat → Nat × Nat} {R c m go co k r bx : Nat} (h : Pre w wx ax wd K cK N X p n F O R c m go co k r bx) : w.heap.size < wx.heap.size ∧ bx < wx.heap.size ∧ go < wx.heap.size := by
  refine ⟨?_, ?_, (h.own.lt go rfl).2⟩
  · by_cases g : w.heap.size < wx.heap.size
    · exact g
    · have h1 := h.hp; rw [Array.getElem?_eq_none (by omega)] at h1; cases h1
  · by_cases g : bx < wx.heap.size
    · exact g
    · have h1 := h.box; rw [Array.getElem?_eq_none (by omega)] at h1; cases h1
theorem Pre.below {w wx wy : World} {ax : Option Addr} {wd K cK : Nat} {N : Nat → Nat} {X : Nat → Nat → Int} {p : Nat → Nat} {n : Nat} {F O : Nat → Nat × Nat} {R c m go co k r bx : Nat} (h : Pre w wx ax wd K cK N X p n F O R c m go co k r bx) (hb : Below wx.heap.size wx wy) : Pre w wy ax wd K cK N X p n F O R c m go co k r bx := by
  obtain ⟨l1, l2, l3⟩ := h.lt
  exact ⟨(hb.block _ l1).trans h.hp, (hb.block _ l2).trans h.box, h.hR, h.hRb, h.hgb, h.hb, h.hnc, h.ent.below hb, h.hgo, h.own.kept (row := none) ⟨hb.os, hb.tape, hb.output, hb.size, fun i hi _ => hb.block i hi⟩ (.inr (by simp [Value.ownBlock])), h.cont, h.heap, h.nK, h.n0, h.k0, h.r0, h.bel.trans (hb.mono h.bel.size)⟩
/-- The last object's name. -/
def LastIs (w : World) (wd m : Nat) (X : Nat → Nat → Int) (O : Nat → Nat × Nat) (lv : Value) : Prop :=
  ∃ B o, lv = .slice (some ⟨B, o, none⟩) wd wd ∧ ∀ t, t < wd → w.cell? ⟨B, o + t, none⟩ = some (.int .u8 (X (O (m - 1)).1 ((O (m - 1)).2 * wd + t)))

theorem Pre.min {w wx : World} {ax : Option Addr} {wd K cK : Nat} {N : Nat → Nat} {X : Nat → Nat → Int} {p : Nat → Nat} {n : Nat} {F O : Nat → Nat × Nat} {R c m go co k r bx : Nat} (h : Pre w wx ax wd K cK N X p n F O R c m go co k r bx) :
    k < K ∧ r < N k ∧ F 0 = (k, r) ∧ ∀ k', k' < (tab wd K N X).K → p k' < (tab wd K N X).N k' → (tab wd K N X).Le k (p k) k' (p k') := by
  obtain ⟨o1, o2, o3⟩ := h.cont.ok 0 h.n0
  have hm := h.cont.min h.heap h.n0
  rw [h.k0] at o1 o2 o3 hm
  rw [h.r0] at o2 o3
  exact ⟨o1, o3, Prod.ext h.k0 o2, hm⟩
theorem fb_head {T : Tab} {p : Nat → Nat} {m k r : Nat} {O : Nat → Nat × Nat} (hs : T.Sorted) (hi : T.Inv p m O) (hk : k < T.K) (hr : p k = r) (hp : r < T.N k) (hmin : ∀ k', k' < T.K → p k' < T.N k' → T.Le k (p k) k' (p k')) :
    T.fb k r = (decide (m = 0) || !decide (T.A k r = T.A (O (m - 1)).1 (O (m - 1)).2)) := by
  subst hr
  rw [Bool.eq_iff_iff, T.fb_iff, ← hi.new_iff hs hk hp hmin]
  simp
theorem Pre.append {w wx w2 : World} {ax : Option Addr} {wd K cK : Nat} {N : Nat → Nat} {X : Nat → Nat → Int} {p : Nat → Nat} {n : Nat} {F O : Nat → Nat × Nat} {R c m go co k r bx g cap : Nat} (h : Pre w wx ax wd K cK N X p n F O R c m go co k r bx)
    (a1 : w2.ownsRow (w.heap.size + 1) 50 2 (.slice (some ⟨g, 0, none⟩) (m + 1) cap) (m + 1) (ecells O m ++ [.int .u32 (k : Nat), .int .u32 (r : Nat)])) (a2 : (wx.alloc (.cells #[.int .u32 k, .int .u32 r] 50)).grownBy w2 (some go))
    (a3 : some go = some g ∨ g = (wx.alloc (.cells #[.int .u32 k, .int .u32 r] 50)).heap.size) : Pre w w2 ax wd K cK N X p n F (put O m (k, r)) R c (m + 1) g cap k r bx := by
  obtain ⟨l1, l2, l3⟩ := h.lt
  have l4 := h.ent.lt
  have hz : (wx.alloc (.cells #[.int .u32 k, .int .u32 r] 50)).heap.size = wx.heap.size + 1 := by show (wx.heap.push _).size = _; rw [Array.size_push]
  rw [hz] at a3
  have hgo : w.heap.size + 1 ≤ go := (h.own.lt go rfl).1
  have hgR := h.hgo
  have hgB := h.hgb
  have hblk : ∀ b, b < wx.heap.size → b ≠ go → w2.heap[b]? = wx.heap[b]? := fun b hb hne => (a2.block b (by omega) (by simpa using hne)).trans (heap_alloc_old wx _ hb)
  rw [ecells_put] at a1
  have e3 : g = go ∨ g = wx.heap.size + 1 := by
    rcases a3 with a3 | a3
    · exact .inl (Option.some.inj a3).symm
    · exact .inr a3
  refine ⟨(hblk _ l1 (by omega)).trans h.hp, (hblk _ l2 (fun e => hgB e.symm)).trans h.box, h.hR, h.hRb, ?_, h.hb, h.hnc, h.ent.of_block (hblk R l4 (fun e => hgR e.symm)), ?_, a1, h.cont, h.heap, h.nK, h.n0, h.k0, h.r0, append_below (v := .slice (some ⟨go, 0, none⟩) m co) h.bel (h.own.alloc _) a2⟩
  · rcases e3 with rfl | rfl
    · exact hgB
    · omega
  · rcases e3 with rfl | rfl
    · exact hgR
    · omega
theorem own_kp {w w' : World} {base go m co B R : Nat} {xs : List Value} (h : w.ownsRow base 50 2 (.slice (some ⟨go, 0, none⟩) m co) m xs) (hk : Kp B R w w') (h1 : go ≠ B) (h2 : go ≠ R) : w'.ownsRow base 50 2 (.slice (some ⟨go, 0, none⟩) m co) m xs := by
  refine ⟨h.1, ?_⟩
  have hl := (h.lt go rfl).2
  rcases h.2 with hn | ⟨g, cap, cur, e, hb, hgg, rest⟩
  · exact .inl hn
  · have e' := e
    simp only [Value.slice.injEq, Option.some.injEq, Addr.mk.injEq, and_true, true_and] at e'
    obtain ⟨rfl, rfl⟩ := e'
    exact .inr ⟨go, co, cur, rfl, hb, (hk.2 go hl h1 h2).trans hgg, rest⟩
theorem main_end {w wx wy : World} {ax : Option Addr} {wd K cK : Nat} {N : Nat → Nat} {X : Nat → Nat → Int} {p : Nat → Nat} {n n' : Nat} {F F' O : Nat → Nat × Nat} {R c m go co k r bx : Nat} {lv : Value} (h : Pre w wx ax wd K cK N X p n F O R c m go co k r bx)
    (hI : (tab wd K N X).Inv (bump p k) m O) (hm : m = (tab wd K N X).ct (bump p k) K) (hl : LastIs w wd m X O lv) (hkp : Kp w.heap.size R wx wy) (h1 : HpR wy w.heap.size ax K cK R n' c F') (hn' : n' ≤ n) (hc : (tab wd K N X).Cont (bump p k) n' F') (hh : (tab wd K N X).HeapFrom F' n' 0) :
    Main w wy ax wd K cK N X (rows N K - rows (bump p k) K) m go co lv := by
  have hgo : w.heap.size + 1 ≤ go := (h.own.lt go rfl).1
  have hR := h.hR
  have h2 := h.hnc
  have h3 := h.nK
  exact ⟨bump p k, n', F', O, some ⟨R, 0, none⟩, c, rfl, h1.1, .inr ⟨R, rfl, hR, by omega, h1.2.2, h.hgo⟩, own_kp h.own hkp (by omega) h.hgo, hc, hh, hI, hm, by omega, .inr hl, h.bel.trans (hkp.below h.bel.size (Nat.le_refl _) (by omega))⟩
/-- The root's row is moved on. -/
theorem Ent.next {w : World} {R n k r : Nat} {F : Nat → Nat × Nat} (h : Ent w R n F) (hn : 0 < n) (h0 : F 0 = (k, r)) : Ent (w.setCell ⟨R, 1, none⟩ (.int .u32 ((r : Int) + 1))) R n (next F) := by
  obtain ⟨cur, ty, h1, h2, h3⟩ := h
  refine ⟨_, ty, heap_setCell_same _ _ _ _ _ _ h1, by simp; exact h2, fun t ht => ?_⟩
  by_cases e : t = 0
  · subst e
    have := h3 0 hn
    rw [next_zero, h0]
    rw [h0] at this
    refine ⟨?_, ?_⟩
    · rw [Array.getElem?_setIfInBounds_ne (by omega)]; exact this.1
    · rw [Array.getElem?_setIfInBounds]; simp; omega
  · have := h3 t ht
    rw [next_ne F e]
    refine ⟨?_, ?_⟩
    · rw [Array.getElem?_setIfInBounds_ne (by omega)]; exact this.1
    · rw [Array.getElem?_setIfInBounds_ne (by omega)]; exact this.2
theorem Pre.base {w wx : World} {ax : Option Addr} {wd K cK : Nat} {N : Nat → Nat} {X : Nat → Nat → Int} {p : Nat → Nat} {n : Nat} {F O : Nat → Nat × Nat} {R c m go co k r bx : Nat} (h : Pre w wx ax wd K cK N X p n F O R c m go co k r bx) (hx : Ixs w ax wd K N X) (hX : ∀ k x, 0 ≤ X k x ∧ X k x ≤ 255) (hN : ∀ k, k < K → N k ≤ 4096) (hw0 : 0 < wd) (hw : wd ≤ 32) (hK : K ≤ 8192) :
    Base w wx w.heap.size R ax wd K N X ∧ HpR wx w.heap.size ax K cK R n c F ∧ Oks K N n F := by
  have hR := h.hR
  refine ⟨⟨hx, h.bel, Nat.le_refl _, by omega, hX, hw0, hw, hK⟩, ⟨h.hp, by omega, h.ent⟩, fun t ht => ?_⟩
  have := h.cont.ok t ht
  have h1 : (F t).1 < K := this.1
  exact ⟨h1, by rw [this.2.1]; exact this.2.2, hN _ h1⟩
/-- What is there ahead of Fix. -/
theorem Pre.fix {w wx : World} {ax : Option Addr} {wd K cK : Nat} {N : Nat → Nat} {X : Nat → Nat → Int} {p : Nat → Nat} {n : Nat} {F O : Nat → Nat × Nat} {R c m go co k r bx : Nat} (h : Pre w wx ax wd K cK N X p n F O R c m go co k r bx) (hx : Ixs w ax wd K N X) (hX : ∀ k x, 0 ≤ X k x ∧ X k x ≤ 255) (hN : ∀ k, k < K → N k ≤ 4096) (hw0 : 0 < wd) (hw : wd ≤ 32) (hK : K ≤ 8192) (hr : r + 1 < N k) :
    Kp w.heap.size R wx (wx.setCell ⟨R, 1, none⟩ (.int .u32 ((r : Int) + 1))) ∧ Base w (wx.setCell ⟨R, 1, none⟩ (.int .u32 ((r : Int) + 1))) w.heap.size R ax wd K N X ∧ HpR (wx.setCell ⟨R, 1, none⟩ (.int .u32 ((r : Int) + 1))) w.heap.size ax K cK R n c (next F) ∧ Oks K N n (next F) ∧
    (tab wd K N X).Cont (bump p k) n (next F) ∧ (tab wd K N X).HeapFrom (next F) n 1 := by
  have hR := h.hR
  obtain ⟨o1, o2, o3, _⟩ := h.min
  obtain ⟨b1, b2, b3⟩ := h.base hx hX hN hw0 hw hK
  have hk : Kp w.heap.size R wx (wx.setCell ⟨R, 1, none⟩ (.int .u32 ((r : Int) + 1))) := (Kp.refl _ _ _).setR _
  refine ⟨hk, b1.kp hk, ⟨?_, by omega, h.ent.next h.n0 o3⟩, fun t ht => ?_, ?_, h.heap.next⟩
  · rw [heap_setCell_other _ _ _ _ (show w.heap.size ≠ R by omega)]; exact h.hp
  · by_cases e : t = 0
    · subst e
      rw [next_zero, o3]; exact ⟨o1, hr, hN _ o1⟩
    · rw [next_ne F e]; exact b3 t ht
  · have := h.cont.next h.n0 (by rw [h.k0, h.r0]; exact hr)
    rw [h.k0] at this; exact this
theorem Pre.pop {w wx : World} {ax : Option Addr} {wd K cK : Nat} {N : Nat → Nat} {X : Nat → Nat → Int} {p : Nat → Nat} {n : Nat} {F O : Nat → Nat × Nat} {R c m go co k r bx : Nat} (h : Pre w wx ax wd K cK N X p (n + 1) F O R c m go co k r bx) (hr : ¬ r + 1 < N k) :
    (tab wd K N X).Cont (bump p k) n (swapE F 0 n) ∧ (tab wd K N X).HeapFrom (swapE F 0 n) n 1 := by
  have hc := h.cont.swap (i := 0) (j := n) (by omega) (by omega)
  have := hc.pop (by rw [swapE_r, h.k0, h.r0]; exact hr)
  rw [swapE_r, h.k0] at this
  exact ⟨this, h.heap.pop⟩
set_option maxRecDepth 20000 in
set_option maxHeartbeats 3200000 in
theorem merge_any (w : World) (ax : Option Addr) (wd K cK : Nat) (N : Nat → Nat) (X : Nat → Nat → Int) (hx : Ixs w ax wd K N X) (hw0 : 0 < wd) (hw : wd ≤ 32) (hK : K ≤ 8192) (hX : ∀ k x, 0 ≤ X k x ∧ X k x ≤ 255) (hN : ∀ k, k < K → N k ≤ 4096) (hR : ∀ k, k ≤ K → rows N k ≤ 8192) (hS : (tab wd K N X).Sorted) :
    Calls Try.prog 23 #[.slice ax K cK] w fun e w' => MPost w (tab wd K N X) e w' := by
  obtain ⟨i50, hi50, hz0, hz1, hz2⟩ := info_parts info50
  have HX := hide (And.intro hx (And.intro hX (And.intro hN hR)))
  have HS := hide hS
  clear hx hX hN hR hS
  go_enter Try.func23, Try.ntmps23
  go_wp2_with fail
  go_loopw [4, 5, 6, 16] (fun s _ _ x wr => ∃ (i : Nat) (v : Value), i ≤ K ∧ x = .int .i64 i ∧ s = .int .i64 (rows N i : Nat) ∧ Hid (Gath w wr ax wd K cK i N X v)) (fun _ _ _ x _ => K - (intOf x).toNat)
  case atStart =>
    refine ⟨0, .slice none 0 0, by omega, rfl, rfl, 0, fun _ => (0, 0), ?_, World.ownsRow_nil _ _ _ _, cont_zero _, by omega, (Below.refl _ _).alloc (Nat.le_refl _) _⟩
    exact heap_alloc_new _ _
  case round =>
    obtain ⟨i, v, hi, rfl, rfl, hg⟩ := hrel
    by_cases hlt : i < K
    · obtain ⟨bx, ox, q, rfl, c0, c1⟩ := HX.out.1 i hlt
      obtain ⟨n, E, g1, g2, g3, g4, g5⟩ := hg.out
      have d0 := (g5.cell (block_lt_of_cell c0)).trans c0
      have d7 := (g5.cell (block_lt_of_cell c1.2.1)).trans c1.2.1
      have hq : q < w.heap.size := block_lt_of_cell c1.2.1
      have i1 : (i : Int) < (K : Int) := by omega
      have hBl : w.heap.size < wr.heap.size := by
        by_cases g : w.heap.size < wr.heap.size
        · exact g
        · rw [Array.getElem?_eq_none (by omega)] at g1; cases g1
      have hNi : (N i : Int) ≤ 4096 := by have := HX.out.2.2.1 i hlt; omega
      have hri : (rows N i : Int) ≤ 8192 := by have := HX.out.2.2.2 i (by omega); omega
      have hrs : Hid ((rows N (i + 1) : Nat) = rows N i + N i) := rfl
      by_cases hp : 0 < N i
      · have hp' : (0 : Int) < (N i : Int) := by omega
        have b0 : wr.cell? ⟨w.heap.size, 1, none⟩ = some v := cell_of_row _ _ 1 _ _ _ g1
        have HG := hide (And.intro g1 (And.intro g2 (And.intro g3 (And.intro g4 g5))))
        have i8 : (i : Int) ≤ 8192 := by omega
        clear g1 g2 g3 g4 g5 c0 c1
        have hown : Hid ((wr.alloc (.cells #[.int .u32 (i : Nat), .int .u32 0] 50)).ownsRow (w.heap.size + 1) 50 2 v n (ecells E n)) := HG.out.2.1.alloc _
        have hnews : Hid (∀ (j : Nat) (u : Value), [Value.int .u32 (i : Nat), .int .u32 0][j]? = some u → (wr.alloc (.cells #[.int .u32 (i : Nat), .int .u32 0] 50)).cell? ((⟨wr.heap.size, 0, none⟩ : Addr).add j) = some u) :=
          World.news_of_block (cs := #[.int .u32 (i : Nat), .int .u32 0]) (t := 50) (fr := (0, 0)) (heap_alloc_new _ _)
        have honce : Hid (∀ u ∈ [Value.int .u32 (i : Nat), .int .u32 0], u.oneCell' = true) := fun u hu => by
          simp at hu; rcases hu with rfl | rfl <;> rfl
        have h63 : Hid (n + 1 ≤ maxLen ∧ (n + 1) * 8 ≤ 140737488355328 ∧ w.heap.size + 1 ≤ (wr.alloc (.cells #[.int .u32 (i : Nat), .int .u32 0] 50)).heap.size) := by
          have := HG.out.2.2.2.1
          have hz : (wr.alloc (.cells #[.int .u32 (i : Nat), .int .u32 0] 50)).heap.size = wr.heap.size + 1 := by show (wr.heap.push _).size = _; rw [Array.size_push]
          exact ⟨by unfold maxLen; omega, by omega, by omega⟩
        go_wp2_with fail
        refine (len27_any q (N i) wr d7).mono ?_
        rintro e w1 ⟨rfl, rfl⟩
        go_wp2_with (refine wpList_append_lies _ rfl (.tmp 28) (.tmp 32) 47 rfl (w.heap.size + 1) 50 i50 _ 2 8 Try.underlying47 hi50 hz0 hz1 hz2 rfl (by omega) v n (ecells E n) rfl hown.out ⟨_, 0, none⟩ 1 1 [.int .u32 (i : Nat), .int .u32 0] rfl rfl hnews.out honce.out (by omega) h63.out.1 h63.out.2.1 h63.out.2.2 _ rfl ?_; intro g cap w2 a1 a2 a3 a4; have k1 := append_keeps HG.out.1 hBl hown.out a2; have k2 := append_below HG.out.2.2.2.2 hown.out a2; have s1 : w2.cell? ⟨w.heap.size, 1, none⟩ = some v := cell_of_row _ _ 1 _ _ _ k1; have s2 : w2.frozen? ⟨w.heap.size, 1, none⟩ = false := frozen_of_row w2 _ _ _ 70 k1; have HA := hide (And.intro k1 (And.intro k2 a1)); clear k1 k2 a1 a2 a3 a4)
        have f7 : (w2.setCell ⟨w.heap.size, 1, none⟩ (.slice (some ⟨g, 0, none⟩) (n + 1) cap)).cell? ⟨q, 7, none⟩ = some (.int .i64 (N i)) := by
          rw [World.cell?_setCell_other _ _ _ _ (by first | (simp; done) | (simp; omega)), HA.out.2.1.cell hq, (HG.out.2.2.2.2.cell hq).symm]; exact d7
        refine (len27_any q (N i) _ f7).mono ?_
        rintro e w3 ⟨rfl, rfl⟩
        go_wp2_with fail
        go_roundw
        case rel => exact ⟨i + 1, _, by omega, by go_num, by rw [hrs.out]; first | done | go_num | rfl, gath_step HA.out.1 HA.out.2.2 HA.out.2.1 HG.out.2.2.1 HG.out.2.2.2.1 hp⟩
        case measure => simp [intOf]; omega
      · have hp' : ¬ (0 : Int) < (N i : Int) := by omega
        have hN0 : N i = 0 := by omega
        have HG := hide (And.intro g1 (And.intro g2 (And.intro g3 (And.intro g4 g5))))
        clear g1 g2 g3 g4 g5 c0 c1
        rw [hN0] at d7
        have HN0 := hide hN0
        clear hN0 hNi hp'
        go_wp2_with fail
        refine (len27_any q 0 wr d7).mono ?_
        rintro e w1 ⟨rfl, rfl⟩
        go_wp2_with fail
        refine (len27_any q 0 _ d7).mono ?_
        rintro e w2 ⟨rfl, rfl⟩
        go_wp2_with fail
        go_roundw
        case rel => exact ⟨i + 1, v, by omega, by go_num, by rw [hrs.out, HN0.out]; first | done | go_num | rfl, n, E, HG.out.1, HG.out.2.1, cont_skip HG.out.2.2.1 hp, by have := HG.out.2.2.2.1; omega, HG.out.2.2.2.2⟩
        case measure => simp [intOf]; omega
    · obtain rfl : K = i := by omega
      go_upto_region 10 with fail
      go_cut [] (fun wx => Hid (Heaped w wx ax wd K cK N X))
      case first =>
        obtain ⟨n, E, g1, g2, g3, g4, g5⟩ := hg.out
        by_cases hn : n = 0
        · subst hn
          obtain ⟨ar, cr, rfl⟩ := own_zero g2
          have HG := hide (And.intro g1 (And.intro g2 (And.intro g3 (And.intro g4 g5))))
          clear g1 g2 g3 g4 g5
          go_wp2_with fail
          refine (init_nil w.heap.size ax ar K cK cr wr HG.out.1).mono ?_
          rintro e w1 ⟨rfl, rfl⟩
          go_wp2_with fail
          go_meet
          exact ⟨0, E, ar, cr, HG.out.1, .inl rfl, HG.out.2.2.1, fun c h0 h1 => by omega, by omega, HG.out.2.2.2.2⟩
        · obtain ⟨R, cr, rfl, hR, hRl⟩ := g2.form (by omega)
          obtain ⟨he, _, hnc⟩ := own_ent g2
          have hp : HpR wr w.heap.size ax K cK R n cr E := ⟨g1, by omega, he⟩
          have hb : Base w wr w.heap.size R ax wd K N X := ⟨HX.out.1, g5, Nat.le_refl _, by omega, HX.out.2.1, hw0, hw, hK⟩
          have hok : Oks K N n E := fun t ht => by
            have := g3.ok t ht
            have h1 : (E t).1 < K := this.1
            exact ⟨h1, by rw [this.2.1]; exact this.2.2, HX.out.2.2.1 _ h1⟩
          have HG := hide (And.intro hp (And.intro hb (And.intro hok (And.intro g3 (And.intro g4 g5)))))
          clear g1 g2 g3 g4 g5 he hp hb hok hg
          go_wp2_with fail
          refine (init_any w w.heap.size R ax wd K cK n cr N X E wr HG.out.2.1 HG.out.1 HG.out.2.2.1 (by have := HG.out.2.2.2.2.1; omega)).mono ?_
          rintro e w1 ⟨rfl, F, f1, f2, f3, f4⟩
          have HF := hide (And.intro f1 (And.intro f2 (And.intro f3 (f4 trivial))))
          clear f1 f2 f3 f4
          go_wp2_with fail
          go_meet
          exact ⟨n, F, some ⟨R, 0, none⟩, cr, HF.out.1.1, .inr ⟨R, rfl, hR, hnc, HF.out.1.2.2⟩, HG.out.2.2.2.1.sws HF.out.2.1, HF.out.2.2.2, HG.out.2.2.2.2.1, HG.out.2.2.2.2.2.trans (HF.out.2.2.1.below HG.out.2.2.2.2.2.size (Nat.le_refl _) (by omega))⟩
      case rest =>
      obtain ⟨Lz, hLz, hmk⟩ := mk47 (rows N K) (HX.out.2.2.2 K (Nat.le_refl _))
      have HL := hide hLz
      clear hLz hg
      have hrK : (rows N K : Int) ≤ 8192 := by have := HX.out.2.2.2 K (Nat.le_refl _); omega
      go_wp2_with fail
      go_loopg [7, 8, 9, 10] (rows N K) (fun g ov lv _ _ wr => ∃ m go co, ov = .slice (some ⟨go, 0, none⟩) m co ∧ Hid (Main w wr ax wd K cK N X g m go co lv))
      case atStart =>
        obtain ⟨n, E, ar, cr, h1, h2, h3, h4, h5, h6⟩ := hcut.out
        exact ⟨0, _, _, rfl, main_start HL.out (HX.out.2.2.2 K (Nat.le_refl _)) h1 h2 h3 h4 h5 h6⟩
      case round =>
        obtain ⟨m, go, co, rfl, hM⟩ := hrel
        obtain ⟨p, n, F, O, ar, c, hgm, h1, h2, h3, h4, h5, h6, h7, h8, h9, h10⟩ := hM.out
        have hm8 : m ≤ 8192 := by
          have g1 := Tab.ct_le (tab wd K N X) p K
          have g2 := rows_le (p := p) (q := N) K h6.le
          have g3 := HX.out.2.2.2 K (Nat.le_refl _)
          omega
        by_cases hn : n = 0
        · subst hn
          have b0 : wr.cell? ⟨w.heap.size, 1, none⟩ = some (.slice ar 0 c) := cell_of_row _ _ 1 _ _ _ h1
          have HI : Hid (MPost w (tab wd K N X) (.returned (.slice (some ⟨go, 0, none⟩) m co)) wr) :=
            ⟨m, go, co, O, rfl, (own_ent h3).1, h6.done h7 (fun k hk hp => by obtain ⟨t, ht, _⟩ := h4.all k hk hp; omega), hm8, h10⟩
          clear h1 h2 h3 h4 h5 h6 h7 h8 h9 h10 hgm hM
          go_wp2_with fail
          go_ret
          exact HI.out
        · obtain ⟨R, rfl, hR1, hnc, hEnt, hgoR⟩ : ∃ R, ar = some ⟨R, 0, none⟩ ∧ w.heap.size + 1 ≤ R ∧ n ≤ c ∧ Ent wr R n F ∧ go ≠ R := by
            rcases h2 with h2 | h2
            · exact absurd h2 hn
            · exact h2
          have hn0 : 0 < n := Nat.pos_of_ne_zero hn
          obtain ⟨k, hk⟩ : ∃ k, (F 0).1 = k := ⟨_, rfl⟩
          obtain ⟨r, hr⟩ : ∃ r, p k = r := ⟨_, rfl⟩
          obtain ⟨ok1, ok2, ok3⟩ := h4.ok 0 hn0
          rw [hk] at ok1 ok2 ok3
          rw [hr] at ok2 ok3
          have ok1 : k < K := ok1
          have ok3 : r < N k := ok3
          obtain ⟨a0, a1⟩ := hEnt.cell hn0
          rw [hk, show 0 * 2 = 0 from rfl] at a0
          rw [ok2, show 0 * 2 + 1 = 1 from rfl] at a1
          have b0 : wr.cell? ⟨w.heap.size, 1, none⟩ = some (.slice (some ⟨R, 0, none⟩) n c) := cell_of_row _ _ 1 _ _ _ h1
          have hNk : N k ≤ 4096 := HX.out.2.2.1 k ok1
          have i1 : (r : Int) < (N k : Int) := by omega
          have i2 : (N k : Int) ≤ 4096 := by omega
          have i3 : (k : Int) < (K : Int) := by omega
          have i4 : (K : Int) ≤ 8192 := by omega
          have i5 : (0 : Int) < (n : Int) := by omega
          have hlt : w.heap.size < wr.heap.size := by
            by_cases g : w.heap.size < wr.heap.size
            · exact g
            · rw [Array.getElem?_eq_none (by omega)] at h1; cases h1
          have hRl := hEnt.lt
          have hgl := (h3.lt go rfl).2
          have HP : Hid (Pre w (wr.alloc (.cells #[.int .u32 k, .int .u32 r] 50)) ax wd K cK N X p n F O R c m go co k r wr.heap.size) :=
            ⟨(heap_alloc_old wr _ hlt).trans h1, heap_alloc_new _ _, hR1, by omega, by omega, by omega, hnc, hEnt.below ((Below.refl _ _).alloc (Nat.le_refl _) _), hgoR, h3.alloc _, h4, h5, h8, hn0, hk, hr, h10.trans (((Below.refl _ _).alloc (Nat.le_refl _) _).mono h10.size)⟩
          have HI := hide (And.intro hgm (And.intro h6 (And.intro h7 h9)))
          clear h1 h2 h3 h4 h5 h6 h7 h8 h9 h10 hgm hM hEnt hk hr ok2
          go_wp2_with fail
          refine (oname_any ax wd K cK k r N X w _ hw0 hw hK ok1 ok3 hNk HX.out.1 HP.out.bel).mono ?_
          rintro e w1 ⟨B, off, rfl, nm, hbw⟩
          have HQ := hide (HP.out.below hbw)
          have HN := hide nm
          clear nm hbw
          go_upto_region 16 with fail
          go_cut [69] (fun cv wx => cv = .bool ((tab wd K N X).fb k r) ∧ wx = w1)
          case first =>
            have hfb := fb_head HS.out HI.out.2.1 HQ.out.min.1 HQ.out.r0 HQ.out.min.2.1 HQ.out.min.2.2.2
            have HF := hide hfb
            clear hfb
            by_cases hm : m = 0
            · subst hm
              go_wp2_with fail
              go_meet
              exact ⟨by rw [HF.out]; rfl, rfl⟩
            · have hmb : ((m : Int) == 0) = false := by simp; omega
              have hmi : ¬ (m : Int) = 0 := by omega
              obtain ⟨B', o', hu8, hl⟩ : LastIs w wd m X O u8 := by
                rcases HI.out.2.2.2 with g | g
                · exact absurd g hm
                · exact g
              have HL2 := hide hl
              subst hu8
              clear hl
              go_wp2_with fail
              refine (equal_any B off wd B' o' wd wd (fun t => X k (r * wd + t)) (fun t => X (O (m - 1)).1 ((O (m - 1)).2 * wd + t)) w1 (fun t ht => (HQ.out.bel.cell (block_lt_of_cell (HN.out t ht))).trans (HN.out t ht)) (fun t ht => (HQ.out.bel.cell (block_lt_of_cell (HL2.out t ht))).trans (HL2.out t ht)) (fun t _ => HX.out.2.1 _ _) (fun t _ => HX.out.2.1 _ _)).mono ?_
              rintro e w2 ⟨rfl, rfl⟩
              go_wp2_with fail
              go_meet
              refine ⟨?_, rfl⟩
              rw [HF.out, decide_eq_false hm, Bool.false_or]
              rfl
          case rest =>
            obtain ⟨rfl, rfl⟩ := hcut
            go_upto_if 69 with fail
            go_cut [7, 8] (fun ov lv wx => ∃ m' go' co', ov = .slice (some ⟨go', 0, none⟩) m' co' ∧ Hid (∃ O', Pre w wx ax wd K cK N X p n F O' R c m' go' co' k r wr.heap.size ∧ (tab wd K N X).Inv (bump p k) m' O' ∧ m' = (tab wd K N X).ct (bump p k) K ∧ LastIs w wd m' X O' lv))
            case first =>
              have c0 : wc.cell? ⟨wr.heap.size, 0, none⟩ = some (.int .u32 k) := cell_of_row _ _ 0 _ _ _ HQ.out.box
              have c1 : wc.cell? ⟨wr.heap.size, 1, none⟩ = some (.int .u32 r) := cell_of_row _ _ 1 _ _ _ HQ.out.box
              have hfb := fb_head HS.out HI.out.2.1 HQ.out.min.1 HQ.out.r0 HQ.out.min.2.1 HQ.out.min.2.2.2
              have hct := Tab.ct_bump (tab wd K N X) p k K HQ.out.min.1
              rw [HQ.out.r0] at hct
              have HF := hide (And.intro hfb hct)
              clear hfb hct
              by_cases hb : (tab wd K N X).fb k r = true
              · rw [hb]
                have hown : Hid ((wc.alloc (.cells #[.int .u32 k, .int .u32 r] 50)).ownsRow (w.heap.size + 1) 50 2 (.slice (some ⟨go, 0, none⟩) m co) m (ecells O m)) := HQ.out.own.alloc _
                have hnews : Hid (∀ (j : Nat) (u : Value), [Value.int .u32 k, .int .u32 r][j]? = some u → (wc.alloc (.cells #[.int .u32 k, .int .u32 r] 50)).cell? ((⟨wc.heap.size, 0, none⟩ : Addr).add j) = some u) :=
                  World.news_of_block (cs := #[.int .u32 k, .int .u32 r]) (t := 50) (fr := (0, 0)) (heap_alloc_new _ _)
                have honce : Hid (∀ u ∈ [Value.int .u32 k, .int .u32 r], u.oneCell' = true) := fun u hu => by
                  simp at hu; rcases hu with rfl | rfl <;> rfl
                have h63 : Hid (m + 1 ≤ maxLen ∧ (m + 1) * 8 ≤ 140737488355328 ∧ w.heap.size + 1 ≤ (wc.alloc (.cells #[.int .u32 k, .int .u32 r] 50)).heap.size) := by
                  have h1 := HQ.out.lt.1
                  have hz : (wc.alloc (.cells #[.int .u32 k, .int .u32 r] 50)).heap.size = wc.heap.size + 1 := by show (wc.heap.push _).size = _; rw [Array.size_push]
                  exact ⟨by unfold maxLen; omega, by omega, by omega⟩
                go_wp2_with (refine wpList_append_lies _ rfl (.tmp 70) (.tmp 72) 47 rfl (w.heap.size + 1) 50 i50 _ 2 8 Try.underlying47 hi50 hz0 hz1 hz2 rfl (by omega) (.slice (some ⟨go, 0, none⟩) m co) m (ecells O m) rfl hown.out ⟨_, 0, none⟩ 1 1 [.int .u32 k, .int .u32 r] rfl rfl hnews.out honce.out (by omega) h63.out.1 h63.out.2.1 h63.out.2.2 _ rfl ?_; intro g cap w2 a1 a2 a3 a4; have HA := hide (And.intro a1 (And.intro a2 a3)); clear a1 a2 a3 a4)
                go_meet
                have hn : m = 0 ∨ (tab wd K N X).A k (p k) ≠ (tab wd K N X).A (O (m - 1)).1 (O (m - 1)).2 := by
                  have := HF.out.1
                  rw [hb] at this
                  rw [HQ.out.r0]
                  simpa using this.symm
                have hst := HI.out.2.1.step_new HS.out HQ.out.min.1 (by rw [HQ.out.r0]; exact HQ.out.min.2.1) HQ.out.min.2.2.2 hn
                rw [HQ.out.r0] at hst
                refine ⟨m + 1, g, cap, rfl, put O m (k, r), HQ.out.append HA.out.1 HA.out.2.1 HA.out.2.2, hst, ?_, B, off, rfl, ?_⟩
                · rw [HF.out.2, hb, if_pos rfl, ← HI.out.2.2.1]
                · intro t ht
                  rw [show m + 1 - 1 = m by omega, put_same]
                  exact HN.out t ht
              · have hb : (tab wd K N X).fb k r = false := by simpa using hb
                rw [hb]
                go_wp2_with fail
                go_meet
                have hn := HF.out.1
                rw [hb] at hn
                have hn1 : ¬ m = 0 ∧ (tab wd K N X).A k r = (tab wd K N X).A (O (m - 1)).1 (O (m - 1)).2 := by simpa using hn.symm
                have hst := HI.out.2.1.step_old HS.out HQ.out.min.1 (by rw [HQ.out.r0]; exact HQ.out.min.2.1) HQ.out.min.2.2.2 hn1.1 (by rw [HQ.out.r0]; exact hn1.2)
                refine ⟨m, go, co, rfl, O, HQ.out, hst, ?_, ?_⟩
                · rw [HF.out.2, hb, ← HI.out.2.2.1]; rfl
                · rcases HI.out.2.2.2 with g | g
                  · exact absurd g hn1.1
                  · exact g
            case rest =>
              obtain ⟨m', go', co', rfl, hmid⟩ := hcut
              obtain ⟨O', q1, q2, q3, q4⟩ := hmid.out
              have c0 : wc.cell? ⟨wr.heap.size, 0, none⟩ = some (.int .u32 k) := cell_of_row _ _ 0 _ _ _ q1.box
              have c1 : wc.cell? ⟨wr.heap.size, 1, none⟩ = some (.int .u32 r) := cell_of_row _ _ 1 _ _ _ q1.box
              obtain ⟨bx, ox, q, rfl, d0', d1'⟩ := HX.out.1 k ok1
              have d0 := (q1.bel.cell (block_lt_of_cell d0')).trans d0'
              have d7 := (q1.bel.cell (block_lt_of_cell d1'.2.1)).trans d1'.2.1
              have C27 : Hid (∀ j, Calls Try.prog 27 #[.pointer (some ⟨q, 0, none⟩)] (wc.drewN j) fun e w' => e = .returned (.int .i64 (N k)) ∧ ∃ j', w' = (wc.drewN j).drewN j') := fun j =>
                (len27_any q (N k) (wc.drewN j) d7).mono fun e w' h => ⟨h.1, 0, h.2⟩
              have s0 : wc.cell? ⟨w.heap.size, 1, none⟩ = some (.slice (some ⟨R, 0, none⟩) n c) := cell_of_row _ _ 1 _ _ _ q1.hp
              obtain ⟨e0, e1⟩ := q1.ent.cell hn0
              rw [q1.min.2.2.1, show 0 * 2 = 0 from rfl] at e0
              rw [q1.min.2.2.1, show 0 * 2 + 1 = 1 from rfl] at e1
              have e2 : wc.frozen? ⟨R, 1, none⟩ = false := q1.ent.frozen 1
              have HM := hide (And.intro q1 (And.intro q2 (And.intro q3 q4)))
              clear q1 q2 q3 q4 hmid d0' d1' d7 a0 a1 b0
              by_cases hr1 : r + 1 < N k
              · have t1 : (r : Int) + 1 < (N k : Int) := by omega
                go_upto_region 19 with fail
                go_quiet ((go_at_call 27; exact Calls.quiet_of (C27.out _)))
                go_wp2_with fail
                have HD := hide (HM.out.1.below (drewN_below (Below.refl _ _) nq))
                have HF := hide (HD.out.fix HX.out.1 HX.out.2.1 HX.out.2.2.1 hw0 hw hK hr1)
                refine (fix_any w w.heap.size R _ wd K cK n c N X (next F) _ HF.out.2.1 HF.out.2.2.1 HF.out.2.2.2.1 (by have := HD.out.nK; omega)).mono ?_
                rintro e w3 ⟨rfl, F', f1, f2, f3, f4⟩
                have HE := hide (main_end HD.out HM.out.2.1 HM.out.2.2.1 HM.out.2.2.2 (HF.out.1.trans f3) f1 (Nat.le_refl _) (HF.out.2.2.2.2.1.sws f2) (f4 HF.out.2.2.2.2.2))
                clear f1 f2 f3 f4
                go_wp2_with fail
                go_roundg (rows N K - rows (bump p k) K)
                case measure =>
                  have g1 := HI.out.1
                  have g2 := rows_bump p k K ok1
                  have g3 := rows_lt (p := p) (q := N) (k := k) K ok1 HI.out.2.1.le (by rw [HM.out.1.r0]; exact ok3)
                  omega
                case rel => exact ⟨m', go', co', rfl, HE.out⟩
              · have t1 : ¬ (r : Int) + 1 < (N k : Int) := by omega
                go_upto_region 19 with fail
                go_quiet ((go_at_call 27; exact Calls.quiet_of (C27.out _)))
                go_wp2_with fail
                have HD := hide (HM.out.1.below (drewN_below (Below.refl _ _) nq))
                obtain ⟨n', rfl⟩ : ∃ n', n = n' + 1 := ⟨n - 1, by omega⟩
                have HF := hide (And.intro (HD.out.base HX.out.1 HX.out.2.1 HX.out.2.2.1 hw0 hw hK) (HD.out.pop hr1))
                refine (pop_any w w.heap.size R _ wd K cK n' c N X F _ HF.out.1.1 HF.out.1.2.1 HF.out.1.2.2 (by have := HD.out.nK; omega) hnc).mono ?_
                rintro e w3 ⟨⟨v', rfl⟩, F', f1, f2, f3, f4⟩
                have HE := hide (main_end HD.out HM.out.2.1 HM.out.2.2.1 HM.out.2.2.2 f3 f1 (by omega) (HF.out.2.1.sws f2) (f4 HF.out.2.2))
                clear f1 f2 f3 f4
                go_wp2_with fail
                go_roundg (rows N K - rows (bump p k) K)
                case measure =>
                  have g1 := HI.out.1
                  have g2 := rows_bump p k K ok1
                  have g3 := rows_lt (p := p) (q := N) (k := k) K ok1 HI.out.2.1.le (by rw [HM.out.1.r0]; exact ok3)
                  omega
                case rel => exact ⟨m', go', co', rfl, HE.out⟩
end Go.Proofs.Qxb6618949a
