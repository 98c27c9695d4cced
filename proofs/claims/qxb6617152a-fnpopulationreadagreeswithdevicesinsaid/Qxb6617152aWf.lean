import Derived.Test.Qxb6617152aRows
import Derived.WalkKit
import Derived.WalkSpells
import Derived.WalkLawsBesides
import Derived.Deep.QuietTactic
import Derived.BigQuiet
import Derived.Laws.CopyOwn
namespace Go.Proofs.Qxb6617152a
open Go.RowKit
set_option linter.unusedVariables false
theorem hide {p : Prop} (h : p) : Hid p := h
/-- A slice of numbers, nil or not. -/
def Row (k : IntKind) (w : World) (ad : Option Addr) (n : Nat) (Z : Nat → Int) : Prop := ∀ i, i < n → ∃ b off, ad = some ⟨b, off, none⟩ ∧ w.cell? ⟨b, off + i, none⟩ = some (.int k (Z i))
theorem Row.below {k : IntKind} {w W : World} {ad : Option Addr} {n : Nat} {Z : Nat → Int} (h : Row k w ad n Z) (hb : Below w.heap.size w W) : Row k W ad n Z := fun i hi => by
  obtain ⟨b, off, e, h1⟩ := h i hi
  exact ⟨b, off, e, (hb.cell (block_lt_of_cell h1)).trans h1⟩
/-- A copy in a new block (nil stays nil). -/
def Cloned (T : TypeId) (k : IntKind) (w : World) (n : Nat) (Z : Nat → Int) (e : Ending) (w' : World) : Prop :=
  ∃ ad', e = .returned (.slice ad' n n) ∧ ((ad' = none ∧ n = 0 ∧ w' = w) ∨ (ad' = some ⟨w.heap.size, 0, none⟩ ∧ ∃ cur, w'.heap[w.heap.size]? = some (.cells cur T) ∧ cur.size = n ∧ ∀ i, i < n → cur[i]? = some (.int k (Z i)))) ∧ Below w.heap.size w w'
theorem cloned_mk {T : TypeId} {k : IntKind} {w w' : World} {n : Nat} {Z : Nat → Int} {cur cs : List Value} (hc : cur.length = n) (hcs : cs = (List.range n).map fun i => Value.int k (Z i))
    (hg : Hid (w'.heap[w.heap.size]? = some (.cells (splice cur 0 cs).toArray T))) (hb : Below w.heap.size w w') : Cloned T k w n Z (.returned (.slice (some ⟨w.heap.size, 0, none⟩) n n)) w' := by
  have hl : cs.length = n := by rw [hcs]; simp
  have hs : splice cur 0 cs = cs := by
    rw [splice, List.take_zero, List.nil_append, Nat.zero_add, List.drop_of_length_le (by omega), List.append_nil]
  rw [hs] at hg
  refine ⟨_, rfl, .inr ⟨rfl, _, hg.out, by simpa using hl, fun i hi => ?_⟩, hb⟩
  rw [hcs]; simp [hi]
theorem info5 : (Try.prog.info? 5).map (fun i => (i.zero, i.size, i.bytes)) = some (some (.int .u8 0), 1, 1) := by kernel_rfl
theorem run_mk5 (n : Nat) (hn : n ≤ 65536) (W : World) : (Instr.makeSlice 32 (.int .i64 n) (.int .i64 n)).run Try.prog W = .ok (.slice (some ⟨W.heap.size, 0, none⟩) n n) (W.alloc (.cells (List.replicate n (.int .u8 0)).toArray 5)) := by
  obtain ⟨i0, hi, hz0, hz1, hz2⟩ := info_parts info5
  rw [run_make W 32 5 i0 _ Try.underlying32 hi hz0 .i64 .i64 n n (by omega) (by omega) (by rw [hz2]; omega) (by omega), hz1]
  have e : madeCells (Value.int .u8 0).cells n = (List.replicate n (.int .u8 0)).toArray := by
    apply Array.toList_inj.1; rw [show (Value.int .u8 0).cells = #[.int .u8 0] from rfl, toList_madeCells_one]
  simp [e]
set_option maxHeartbeats 400000 in
theorem clone8_any (ad : Option Addr) (n c : Nat) (Z : Nat → Int) (w : World) (hn : n ≤ 65536) (h : Row .u8 w ad n Z) (hnil : ad = none → n = 0) :
    Calls Try.prog 17 #[.slice ad n c] w fun e w' => Cloned 5 .u8 w n Z e w' := by
  cases ad with
  | none =>
    obtain rfl := hnil rfl
    have hnl : ∀ W : World, (binOp .eql 32 (.slice none 0 c) (.slice none 0 0)).run Try.prog W = .ok (.bool true) W := fun W => Lib.run_eql_slice_nil W 32 5 none 0 c 0 0 Try.underlying32
    go_enter Try.func17, Try.ntmps17
    go_wp2_with fail
    go_ret
    exact ⟨_, rfl, .inl ⟨rfl, rfl, rfl⟩, Below.refl _ _⟩
  | some x =>
    obtain ⟨L, hL⟩ : ∃ L, L = List.replicate n (Value.int .u8 0) := ⟨_, rfl⟩
    obtain ⟨CS, hCS⟩ : ∃ CS, CS = (List.range n).map fun i => Value.int .u8 (Z i) := ⟨_, rfl⟩
    have hmk : ∀ W : World, (Instr.makeSlice 32 (.int .i64 n) (.int .i64 n)).run Try.prog W = .ok (.slice (some ⟨W.heap.size, 0, none⟩) n n) (W.alloc (.cells L.toArray 5)) := fun W => by rw [hL]; exact run_mk5 n hn W
    have HL := hide hL
    have HCS := hide hCS
    have hlen : CS.length = Nat.min n n := by rw [hCS]; simp
    have hLl : L.length = n := by rw [hL]; simp
    have H1 : Hid (∀ v ∈ CS, v.oneCell' = true) := fun v hv => by
      rw [hCS] at hv; obtain ⟨i, _, rfl⟩ := List.mem_map.1 hv; rfl
    have HSRC : Hid (0 < CS.length → ∃ ad0, (some x : Option Addr) = some ad0 ∧ ∀ (j : Nat) (v : Value), CS[j]? = some v → (w.alloc (.cells L.toArray 5)).cell? (ad0.add j) = some v) := fun hpos => by
      refine ⟨x, rfl, fun j v hj => ?_⟩
      have hjn : j < n := by
        have := (List.getElem?_eq_some_iff.1 hj).1; rw [hlen] at this; simpa using this
      obtain ⟨b, off, e, hc⟩ := h j hjn
      obtain rfl := Option.some.inj e
      have ea : (Addr.mk b off none).add j = ⟨b, off + j, none⟩ := by unfold Addr.add; split <;> simp_all
      rw [ea, World.cell?_alloc_past _ _ _ (block_lt_of_cell hc), hc]
      rw [hCS] at hj
      simp [hjn] at hj
      rw [hj]
    have hfit : 0 + CS.length ≤ L.length := by rw [hlen, hLl]; simp
    clear hL hCS h hnil
    have hnl : ∀ W : World, (binOp .eql 32 (.slice (some x) n c) (.slice none 0 0)).run Try.prog W = .ok (.bool false) W := fun W => Lib.run_eql_slice_nil W 32 5 (some x) n c 0 0 Try.underlying32
    go_enter Try.func17, Try.ntmps17
    go_wp2_with (refine wpList_copy_splice rfl (.tmp 9) (.tmp 10) 32 32 rfl 5 Try.underlying32 (by kernel_rfl) _ _ _ _ _ _ rfl rfl w.heap.size 0 L 5 (heap_alloc_new _ _) CS hlen (fun hp => ⟨rfl, HSRC.out hp⟩) hfit H1.out w.heap.size w ((Below.refl _ _).alloc (Nat.le_refl _) _) (Nat.le_refl _) ?_; intro w2 hg2 hb2)
    go_ret
    exact cloned_mk hLl HCS.out hg2 hb2
/-- The sum of the first k. -/
def sum (S : Nat → Int) : Nat → Int
  | 0 => 0
  | k + 1 => sum S k + S k
theorem sum_bd {S : Nat → Int} {n : Nat} (h : ∀ i, i < n → 0 ≤ S i ∧ S i ≤ 255) : ∀ k, k ≤ n → 0 ≤ sum S k ∧ sum S k ≤ 255 * k
  | 0, _ => by simp [sum]
  | k + 1, hk => by have := sum_bd h k (by omega); have := h k (by omega); simp only [sum]; omega
theorem sum_mono {S : Nat → Int} {n : Nat} (h : ∀ i, i < n → 0 ≤ S i ∧ S i ≤ 255) (a : Nat) : ∀ d, a + d ≤ n → sum S a ≤ sum S (a + d)
  | 0, _ => Int.le_refl _
  | d + 1, hd => by have := sum_mono h a d (by omega); have := h (a + d) (by omega); rw [← Nat.add_assoc]; simp only [sum]; omega
/-- Where group g's namespaces begin. -/
def bnd (G pg ns g : Nat) : Nat := if g ≤ G then g * pg else ns
theorem bnd_zero (G pg ns : Nat) : bnd G pg ns 0 = 0 := by simp [bnd]
theorem bnd_succ {G pg ns g : Nat} (h : g < G) : bnd G pg ns (g + 1) = bnd G pg ns g + pg := by
  unfold bnd; rw [if_pos (by omega), if_pos (by omega), Nat.succ_mul]
theorem bnd_last {G pg ns : Nat} : bnd G pg ns (G + 1) = ns := by unfold bnd; rw [if_neg (by omega)]
theorem bnd_le {G pg ns g : Nat} (h : G * pg ≤ ns) (hg : g ≤ G + 1) : bnd G pg ns g ≤ ns := by
  unfold bnd; split
  · rename_i h2; exact Nat.le_trans (Nat.mul_le_mul_right _ h2) h
  · exact Nat.le_refl _
theorem bnd_mul {G pg ns g : Nat} (hg : g ≤ G) : (g : Int) * (pg : Int) = (bnd G pg ns g : Int) := by unfold bnd; rw [if_pos hg]; simp
/-- The population is well formed. -/
def WF (D g0 pg0 ns0 : Int) (nm ns nf : Nat) (S F : Nat → Int) : Prop :=
  ∃ G pg : Nat, g0 = G + 1 ∧ pg0 = pg ∧ 1 ≤ pg ∧ ns0 = ns ∧ nf = G + 2 ∧ G * pg ≤ ns ∧ 256 * (G : Int) < D ∧ D ≤ 256 * (G : Int) + 256 ∧ (∀ g, g ≤ G + 1 → F g = sum S (bnd G pg ns g)) ∧ (nm : Int) = sum S ns
def IsT (P : Prop) (e : Ending) : Prop := ∃ v : Bool, e = .returned (.bool v) ∧ (v = true → P)
theorem IsT.no {P : Prop} : IsT P (.returned (.bool false)) := ⟨false, rfl, (fun h => by cases h)⟩

set_option maxHeartbeats 1600000 in
theorem wf_loop (D : Int) (G pg nm ns : Nat) (adM adS adF : Option Addr) (cM cS cF : Nat) (S F : Nat → Int) (w : World)
    (hns : ns ≤ 65536) (hnm : nm ≤ 65536) (hG : G ≤ 65536) (hG0 : 0 < G) (hpg : 1 ≤ pg) (hpg2 : pg ≤ 9223372036854775807) (hGp : G * pg ≤ ns) (hD1 : 256 * (G : Int) < D) (hD2 : D ≤ 256 * (G : Int) + 256)
    (hS : Row .u8 w adS ns S) (hSb : ∀ i, i < ns → 0 ≤ S i ∧ S i ≤ 255) (hF : Row .i64 w adF (G + 2) F) :
    Calls Try.prog 16 #[.int .i64 D, .int .i64 ((G : Int) + 1), .int .i64 pg, .int .i64 ns, .slice adM nm cM, .slice adS ns cS, .slice adF (G + 2) cF] w fun e w' => IsT (WF D ((G : Int) + 1) pg ns nm ns (G + 2) S F) e ∧ w' = w := by
  have hq : (G : Int) ≤ (ns : Int) / (pg : Int) := by
    have := (Nat.le_div_iff_mul_le (by omega : 0 < pg)).2 hGp
    rw [← Int.natCast_ediv]; omega
  have hq0 : 0 ≤ (ns : Int) / (pg : Int) := Int.ediv_nonneg (by omega) (by omega)
  have hq1 : (ns : Int) / (pg : Int) ≤ ns := Int.ediv_le_self _ (by omega)
  go_enter Try.func16, Try.ntmps16
  go_wp2_with fail
  all_goals
    clear hq hq0 hq1
    go_loop [15, 16] (fun x i => ∃ (g : Nat) (r : Int), g ≤ G + 1 ∧ i = .int .i64 g ∧ x = .int .i64 r ∧ Hid (r = sum S (bnd G pg ns g) ∧ ∀ h, h < g → F h = sum S (bnd G pg ns h))) (fun _ i => G + 1 - (intOf i).toNat)
    case atStart => exact ⟨0, 0, by omega, rfl, rfl, by rw [bnd_zero]; rfl, fun h hh => by omega⟩
    case round =>
      obtain ⟨g, r, hg, rfl, rfl, hH⟩ := hrel
      by_cases hlt : g ≤ G
      · obtain ⟨P, hP⟩ : ∃ P, P = bnd G pg ns g := ⟨_, rfl⟩
        have hPm : (g : Int) * (pg : Int) = (P : Int) := by rw [hP]; exact bnd_mul hlt
        have hPn : P ≤ ns := by rw [hP]; exact bnd_le hGp (by omega)
        obtain ⟨Q, hQ⟩ : ∃ Q, Q = bnd G pg ns (g + 1) := ⟨_, rfl⟩
        have hQn : Q ≤ ns := by rw [hQ]; exact bnd_le hGp (by omega)
        have hPQ : g < G → P + pg = Q := fun h => by rw [hP, hQ, bnd_succ h]
        have hQl : ¬ g < G → Q = ns := fun h => by rw [hQ, show g = G by omega, bnd_last]
        have hPQ2 : P ≤ Q := by
          by_cases h : g < G
          · have := hPQ h; omega
          · have := hQl h; omega
        obtain ⟨bF, oF, rfl, hcF⟩ := hF g (by omega)
        have hrb := sum_bd hSb P hPn
        have HP := hide hP
        have HQ := hide hQ
        have hr : r = sum S P := by rw [hP]; exact hH.out.1
        have hr1 : 0 ≤ r := by rw [hr]; exact hrb.1
        have hr2 : r ≤ 16777216 := by rw [hr]; omega
        have HR := hide hr
        have hgi : (g : Int) < (G : Int) + 2 := by omega
        have HFF := hide hF
        have HPQ := hide hPQ
        have HQL := hide hQl
        clear hP hQ hr hrb hPQ hQl hF
        by_cases hgG : g < G
        · have hPq : (P : Int) + (pg : Int) = (Q : Int) := by have := HPQ.out hgG; omega
          go_wp2_with fail
          · go_ret; exact ⟨IsT.no, rfl⟩
          · have hFg : (F g != r) = false := by assumption
            have HFR : Hid (F g = r) := by unfold Hid; simpa using hFg
            go_loop [15, 19] (fun z y => ∃ (x : Nat) (q : Int), P ≤ x ∧ x ≤ Q ∧ y = .int .i64 x ∧ z = .int .i64 q ∧ Hid (q = sum S x)) (fun _ y => Q - (intOf y).toNat)
            case atStart => exact ⟨P, r, by omega, by omega, rfl, rfl, HR.out⟩
            case round =>
              obtain ⟨x, q, hx1, hx2, rfl, rfl, hq⟩ := hrel
              have hqb := sum_bd hSb x (by omega)
              have hq0 : 0 ≤ q := by rw [hq.out]; exact hqb.1
              have hq1 : q ≤ 16777216 := by rw [hq.out]; omega
              clear hqb
              by_cases hxl : x < Q
              · obtain ⟨bS, oS, rfl, hcS⟩ := hS x (by omega)
                have hsb := hSb x (by omega)
                obtain ⟨hsb1, hsb2⟩ := hsb
                have hxn : (x : Int) < ns := by omega
                clear hS
                go_wp2_with fail
                go_round
                case rel => exact ⟨x + 1, q + S x, by omega, by omega, by go_num, by go_num, by unfold Hid; rw [hq.out]; rfl⟩
                case measure => simp [intOf]; omega
              · go_wp2_with fail
                go_round
                case rel =>
                  refine ⟨g + 1, q, by omega, by go_num, rfl, ?_, ?_⟩
                  · rw [← HQ.out, hq.out, show x = Q by omega]
                  · intro h hh
                    by_cases e : h = g
                    · subst e; rw [HFR.out, ← hH.out.1]
                    · exact hH.out.2 h (by omega)
                case measure => simp [intOf]; omega
        · have hQ1 : (ns : Int) ≤ (Q : Int) := by have := HQL.out hgG; omega
          go_wp2_with fail
          · go_ret; exact ⟨IsT.no, rfl⟩
          · have hFg : (F g != r) = false := by assumption
            have HFR : Hid (F g = r) := by unfold Hid; simpa using hFg
            go_loop [15, 19] (fun z y => ∃ (x : Nat) (q : Int), P ≤ x ∧ x ≤ Q ∧ y = .int .i64 x ∧ z = .int .i64 q ∧ Hid (q = sum S x)) (fun _ y => Q - (intOf y).toNat)
            case atStart => exact ⟨P, r, by omega, by omega, rfl, rfl, HR.out⟩
            case round =>
              obtain ⟨x, q, hx1, hx2, rfl, rfl, hq⟩ := hrel
              have hqb := sum_bd hSb x (by omega)
              have hq0 : 0 ≤ q := by rw [hq.out]; exact hqb.1
              have hq1 : q ≤ 16777216 := by rw [hq.out]; omega
              clear hqb
              by_cases hxl : x < Q
              · obtain ⟨bS, oS, rfl, hcS⟩ := hS x (by omega)
                have hsb := hSb x (by omega)
                obtain ⟨hsb1, hsb2⟩ := hsb
                have hxn : (x : Int) < ns := by omega
                clear hS
                go_wp2_with fail
                go_round
                case rel => exact ⟨x + 1, q + S x, by omega, by omega, by go_num, by go_num, by unfold Hid; rw [hq.out]; rfl⟩
                case measure => simp [intOf]; omega
              · go_wp2_with fail
                go_round
                case rel =>
                  refine ⟨g + 1, q, by omega, by go_num, rfl, ?_, ?_⟩
                  · rw [← HQ.out, hq.out, show x = Q by omega]
                  · intro h hh
                    by_cases e : h = g
                    · subst e; rw [HFR.out, ← hH.out.1]
                    · exact hH.out.2 h (by omega)
                case measure => simp [intOf]; omega
      · obtain rfl : g = G + 1 := by omega
        obtain ⟨bF, oF, rfl, hcF⟩ := hF (G + 1) (by omega)
        have hr := hH.out.1
        rw [bnd_last] at hr
        have HR := hide hr
        clear hr hF hS
        by_cases hfin : F (G + 1) = r ∧ r = (nm : Int)
        · obtain ⟨hf1, hf2⟩ := hfin
          have hf3 : (F (G + 1) == r) = true := by simpa using hf1
          have hf4 : (r == (nm : Int)) = true := by simpa using hf2
          have HF := hide (And.intro hf1 hf2)
          clear hf1 hf2
          go_wp2_with fail
          go_ret
          refine ⟨⟨true, rfl, fun _ => ⟨G, pg, rfl, rfl, hpg, rfl, rfl, hGp, hD1, hD2, fun g hg => ?_, ?_⟩⟩, rfl⟩
          · by_cases e : g = G + 1
            · subst e; rw [bnd_last, HF.out.1, HR.out]
            · exact hH.out.2 g (by omega)
          · rw [← HF.out.2, HR.out]
        · have hno : (F (G + 1) == r && r == (nm : Int)) = false := by
            rw [Bool.and_eq_false_iff, beq_eq_false_iff_ne, beq_eq_false_iff_ne]
            by_cases e : F (G + 1) = r
            · exact .inr fun h => hfin ⟨e, h⟩
            · exact .inl e
          by_cases e : F (G + 1) = r
          · have hf3 : (F (G + 1) == r) = true := by simpa using e
            have hf4 : (r == (nm : Int)) = false := by rw [beq_eq_false_iff_ne]; exact fun h => hfin ⟨e, h⟩
            clear hfin hno e
            go_wp2_with fail
            go_ret; exact ⟨IsT.no, rfl⟩
          · have hf3 : (F (G + 1) == r) = false := by rw [beq_eq_false_iff_ne]; exact e
            clear hfin hno e
            go_wp2_with fail
            go_ret; exact ⟨IsT.no, rfl⟩
set_option maxHeartbeats 1600000 in
theorem wf_one (D : Int) (G pg nm ns : Nat) (adM adS adF : Option Addr) (cM cS cF : Nat) (S F : Nat → Int) (w : World)
    (hns : ns ≤ 65536) (hnm : nm ≤ 65536) (hG : G ≤ 65536) (hG0 : G ≤ 0) (hpg : 1 ≤ pg) (hpg2 : pg ≤ 9223372036854775807) (hGp : G * pg ≤ ns) (hD1 : 256 * (G : Int) < D) (hD2 : D ≤ 256 * (G : Int) + 256)
    (hS : Row .u8 w adS ns S) (hSb : ∀ i, i < ns → 0 ≤ S i ∧ S i ≤ 255) (hF : Row .i64 w adF (G + 2) F) :
    Calls Try.prog 16 #[.int .i64 D, .int .i64 ((G : Int) + 1), .int .i64 pg, .int .i64 ns, .slice adM nm cM, .slice adS ns cS, .slice adF (G + 2) cF] w fun e w' => IsT (WF D ((G : Int) + 1) pg ns nm ns (G + 2) S F) e ∧ w' = w := by
  have hq : (G : Int) ≤ (ns : Int) / (pg : Int) := by
    have := (Nat.le_div_iff_mul_le (by omega : 0 < pg)).2 hGp
    rw [← Int.natCast_ediv]; omega
  have hq0 : 0 ≤ (ns : Int) / (pg : Int) := Int.ediv_nonneg (by omega) (by omega)
  have hq1 : (ns : Int) / (pg : Int) ≤ ns := Int.ediv_le_self _ (by omega)
  go_enter Try.func16, Try.ntmps16
  go_wp2_with fail
  all_goals
    clear hq hq0 hq1
    go_loop [15, 16] (fun x i => ∃ (g : Nat) (r : Int), g ≤ G + 1 ∧ i = .int .i64 g ∧ x = .int .i64 r ∧ Hid (r = sum S (bnd G pg ns g) ∧ ∀ h, h < g → F h = sum S (bnd G pg ns h))) (fun _ i => G + 1 - (intOf i).toNat)
    case atStart => exact ⟨0, 0, by omega, rfl, rfl, by rw [bnd_zero]; rfl, fun h hh => by omega⟩
    case round =>
      obtain ⟨g, r, hg, rfl, rfl, hH⟩ := hrel
      by_cases hlt : g ≤ G
      · obtain ⟨P, hP⟩ : ∃ P, P = bnd G pg ns g := ⟨_, rfl⟩
        have hPm : (g : Int) * (pg : Int) = (P : Int) := by rw [hP]; exact bnd_mul hlt
        have hPn : P ≤ ns := by rw [hP]; exact bnd_le hGp (by omega)
        obtain ⟨Q, hQ⟩ : ∃ Q, Q = bnd G pg ns (g + 1) := ⟨_, rfl⟩
        have hQn : Q ≤ ns := by rw [hQ]; exact bnd_le hGp (by omega)
        have hPQ : g < G → P + pg = Q := fun h => by rw [hP, hQ, bnd_succ h]
        have hQl : ¬ g < G → Q = ns := fun h => by rw [hQ, show g = G by omega, bnd_last]
        have hPQ2 : P ≤ Q := by
          by_cases h : g < G
          · have := hPQ h; omega
          · have := hQl h; omega
        obtain ⟨bF, oF, rfl, hcF⟩ := hF g (by omega)
        have hrb := sum_bd hSb P hPn
        have HP := hide hP
        have HQ := hide hQ
        have hr : r = sum S P := by rw [hP]; exact hH.out.1
        have hr1 : 0 ≤ r := by rw [hr]; exact hrb.1
        have hr2 : r ≤ 16777216 := by rw [hr]; omega
        have HR := hide hr
        have hgi : (g : Int) < (G : Int) + 2 := by omega
        have HFF := hide hF
        have HPQ := hide hPQ
        have HQL := hide hQl
        clear hP hQ hr hrb hPQ hQl hF
        have hgG : ¬ g < G := by omega
        have hQ1 : (ns : Int) ≤ (Q : Int) := by have := HQL.out hgG; omega
        go_wp2_with fail
        · go_ret; exact ⟨IsT.no, rfl⟩
        · have hFg : (F g != r) = false := by assumption
          have HFR : Hid (F g = r) := by unfold Hid; simpa using hFg
          go_loop [15, 19] (fun z y => ∃ (x : Nat) (q : Int), P ≤ x ∧ x ≤ Q ∧ y = .int .i64 x ∧ z = .int .i64 q ∧ Hid (q = sum S x)) (fun _ y => Q - (intOf y).toNat)
          case atStart => exact ⟨P, r, by omega, by omega, rfl, rfl, HR.out⟩
          case round =>
            obtain ⟨x, q, hx1, hx2, rfl, rfl, hq⟩ := hrel
            have hqb := sum_bd hSb x (by omega)
            have hq0 : 0 ≤ q := by rw [hq.out]; exact hqb.1
            have hq1 : q ≤ 16777216 := by rw [hq.out]; omega
            clear hqb
            by_cases hxl : x < Q
            · obtain ⟨bS, oS, rfl, hcS⟩ := hS x (by omega)
              have hsb := hSb x (by omega)
              obtain ⟨hsb1, hsb2⟩ := hsb
              have hxn : (x : Int) < ns := by omega
              clear hS
              go_wp2_with fail
              go_round
              case rel => exact ⟨x + 1, q + S x, by omega, by omega, by go_num, by go_num, by unfold Hid; rw [hq.out]; rfl⟩
              case measure => simp [intOf]; omega
            · go_wp2_with fail
              go_round
              case rel =>
                refine ⟨g + 1, q, by omega, by go_num, rfl, ?_, ?_⟩
                · rw [← HQ.out, hq.out, show x = Q by omega]
                · intro h hh
                  by_cases e : h = g
                  · subst e; rw [HFR.out, ← hH.out.1]
                  · exact hH.out.2 h (by omega)
              case measure => simp [intOf]; omega
      · obtain rfl : g = G + 1 := by omega
        obtain ⟨bF, oF, rfl, hcF⟩ := hF (G + 1) (by omega)
        have hr := hH.out.1
        rw [bnd_last] at hr
        have HR := hide hr
        clear hr hF hS
        by_cases hfin : F (G + 1) = r ∧ r = (nm : Int)
        · obtain ⟨hf1, hf2⟩ := hfin
          have hf3 : (F (G + 1) == r) = true := by simpa using hf1
          have hf4 : (r == (nm : Int)) = true := by simpa using hf2
          have HF := hide (And.intro hf1 hf2)
          clear hf1 hf2
          go_wp2_with fail
          go_ret
          refine ⟨⟨true, rfl, fun _ => ⟨G, pg, rfl, rfl, hpg, rfl, rfl, hGp, hD1, hD2, fun g hg => ?_, ?_⟩⟩, rfl⟩
          · by_cases e : g = G + 1
            · subst e; rw [bnd_last, HF.out.1, HR.out]
            · exact hH.out.2 g (by omega)
          · rw [← HF.out.2, HR.out]
        · have hno : (F (G + 1) == r && r == (nm : Int)) = false := by
            rw [Bool.and_eq_false_iff, beq_eq_false_iff_ne, beq_eq_false_iff_ne]
            by_cases e : F (G + 1) = r
            · exact .inr fun h => hfin ⟨e, h⟩
            · exact .inl e
          by_cases e : F (G + 1) = r
          · have hf3 : (F (G + 1) == r) = true := by simpa using e
            have hf4 : (r == (nm : Int)) = false := by rw [beq_eq_false_iff_ne]; exact fun h => hfin ⟨e, h⟩
            clear hfin hno e
            go_wp2_with fail
            go_ret; exact ⟨IsT.no, rfl⟩
          · have hf3 : (F (G + 1) == r) = false := by rw [beq_eq_false_iff_ne]; exact e
            clear hfin hno e
            go_wp2_with fail
            go_ret; exact ⟨IsT.no, rfl⟩
end Go.Proofs.Qxb6617152a
