/-
  DERIVED. THE WALK OF 'zzNamesIndex' (function 8): at the id of n and n it answers true.
-/
import Derived.Test.Qxb6616925aDoorRows
import Derived.Test.Qxb6616925aDoorMath
import Derived.WalkKit
import Derived.WalkSpells
import Derived.WalkLawsBesides
import Derived.Deep.QuietTactic
import Derived.BigQuiet
import Derived.Lib.Strings
namespace Go.Proofs.Qxb6616925aDoor
open Go.RowKit Dec
theorem take_snoc (s : ByteArray) (k : Nat) (h : k < s.size) : s.data.toList.take (k + 1) = s.data.toList.take k ++ [s[k]] := by
  rw [List.take_succ_eq_append_getElem (by simpa using h)]; rfl
theorem step_u (a d : Int) (h0 : 0 ≤ a) (h1 : 48 ≤ d) (h2 : d ≤ 57) (h3 : a < 1000000000000000000) : IntKind.u64.wrap (IntKind.u64.wrap (a * 10) + (d - 48)) = a * 10 + (d - 48) := by
  rw [IntKind.wrap_u64, IntKind.wrap_u64]; omega
theorem num_take_lt (r : ByteArray) (hr2 : r.size ≤ 19) (hdig : ∀ k (h : k < r.size), 48 ≤ ((r[k]'h).toNat : Int) ∧ ((r[k]'h).toNat : Int) ≤ 57) (k : Nat) (hk : k < r.size) : num (r.data.toList.take k) < 1000000000000000000 := by
  have h := num_lt k (r.data.toList.take k) (by rw [List.length_take, Nat.min_eq_left]; exact Nat.le_of_lt hk) (fun c hc => by
    obtain ⟨j, hj, e⟩ := List.mem_iff_getElem.1 (List.mem_of_mem_take hc)
    have := hdig j (by simpa using hj)
    have e2 : r[j]'(by simpa using hj) = c := e
    rw [e2] at this
    unfold dig; omega)
  have : 10 ^ k ≤ 10 ^ 18 := Nat.pow_le_pow_right (by omega) (by omega)
  omega
theorem num_step (r : ByteArray) (k : Nat) (hk : k < r.size) (hd : 48 ≤ ((r[k]'hk).toNat : Int)) : ((num (r.data.toList.take (k + 1)) : Nat) : Int) = (num (r.data.toList.take k) : Int) * 10 + (((r[k]'hk).toNat : Int) - 48) := by
  rw [take_snoc r k hk, num_snoc]; omega
set_option maxHeartbeats 400000 in
theorem names_pos (id r : ByteArray) (n : Int) (w : World) (h0 : 7 ≤ id.size) (h1 : id.size ≤ 26) (hn0 : 0 ≤ n) (hn1 : n ≤ 9223372036854775807)
   (hpre : ∀ k (h : k < 6), ((id[k]'(by omega)).toNat : Int) = ((ByteArray.mk #[98, 108, 111, 99, 107, 45])[k]'h).toNat)
   (hsl : ∀ W, (Instr.slice 9 (.string id) (some (.int .i64 6)) none none).run Tryd.prog W = .ok (.string r) W) (hr1 : 0 < r.size) (hr2 : r.size ≤ 19)
   (hdig : ∀ k (h : k < r.size), 48 ≤ ((r[k]'h).toNat : Int) ∧ ((r[k]'h).toNat : Int) ≤ 57)
   (hlead : 1 < r.size → ((r[0].toNat : Int) == 48) = false)
   (hnum : Hid ((num r.data.toList : Int) = n)) :
    Calls Tryd.prog 8 #[.string id, .int .i64 n] w fun e w' => e = .returned (.bool true) ∧ ∃ k, w' = w.drewN k := by
  have hr0 : ((r[0].toNat : Int) == 45) = false := by have := hdig 0 hr1; simp; omega
  have hz : ((r.size : Int) == 0) = false := by rw [beq_eq_false_iff_ne]; omega
  have hne : ¬ r = ByteArray.empty := by rintro rfl; simp at hr1
  by_cases hone : 1 < r.size
  all_goals
    go_enter Tryd.func8, Tryd.ntmps8
    go_wp2
    go_loopw [5] (fun i wr => ∃ k m : Nat, k ≤ 6 ∧ i = .int .i64 k ∧ wr = w.drewN m) (fun i _ => 6 - (intOf i).toNat)
    case atStart => exact ⟨0, 0, by omega, rfl, (World.drewN_zero _).symm⟩
    case round =>
      obtain ⟨k, m, hk, rfl, rfl⟩ := hrel
      by_cases hlt : k < 6
      · have hI : (k : Int) < 6 := by omega
        have hI2 : (k : Int) < id.size := by omega
        have hq := hpre k hlt
        have hq2 : (((id[k]'(by omega)).toNat : Int) != ((ByteArray.mk #[98, 108, 111, 99, 107, 45])[k]'hlt).toNat) = false := by rw [hq]; simp
        clear hq hpre hdig hlead
        go_wp2
        go_quiet (fail)
        go_wp2
        go_roundw
        case rel => exact ⟨k + 1, _, by omega, by go_num, rfl⟩
        case measure => simp [intOf]; omega
      · obtain rfl : k = 6 := by omega
        clear hlt hk hpre
        have hl := hlead
        clear hlead
        first | replace hl := hl hone | clear hl
        go_wp2_with fail
        go_loop [8, 9, 10] (fun u i _ => ∃ k a : Nat, k ≤ r.size ∧ i = .int .i64 k ∧ u = .int .u64 a ∧ Hid (a = num (r.data.toList.take k))) (fun _ i _ => r.size - (intOf i).toNat)
        case atStart => exact ⟨0, 0, by omega, rfl, rfl, by simp [Hid, num]⟩
        case round =>
          obtain ⟨k, a, hk, rfl, rfl, ha⟩ := hrel
          by_cases hlt : k < r.size
          · have hd := hdig k hlt
            obtain ⟨d1, d2⟩ := hd
            have hlt18 := num_take_lt r hr2 hdig k hlt
            have hst : Hid (((num (r.data.toList.take (k + 1)) : Nat) : Int) = (num (r.data.toList.take k) : Int) * 10 + (((r[k]'hlt).toNat : Int) - 48)) := num_step r k hlt d1
            have HL : Hid (num (r.data.toList.take k) < 1000000000000000000) := hlt18
            clear hlt18
            go_wp2
            go_round
            case rel =>
              have e1 := HL.out; have e2 := hst.out; have e3 := ha.out
              refine ⟨k + 1, num (r.data.toList.take (k + 1)), by omega, by go_num, ?_, rfl⟩
              rw [step_u _ _ (by omega) d1 d2 (by omega), e2, e3]
            case measure => simp [intOf]; omega
          · obtain rfl : k = r.size := by omega
            have e1 : Hid ((a : Int) = n) := by
              have := ha.out
              rw [show r.data.toList.take r.size = r.data.toList from List.take_of_length_le (Nat.le_refl _)] at this
              rw [this]; exact hnum.out
            go_wp2
            go_ret
            have e2 := e1.out
            exact ⟨by simp [e2]; omega, _, rfl⟩
set_option maxHeartbeats 400000 in
theorem names_neg (id r0 r : ByteArray) (n : Int) (w : World) (h0 : 7 ≤ id.size) (h1 : id.size ≤ 27) (hn0 : n < 0) (hn1 : -9223372036854775808 ≤ n)
   (hpre : ∀ k (h : k < 6), ((id[k]'(by omega)).toNat : Int) = ((ByteArray.mk #[98, 108, 111, 99, 107, 45])[k]'h).toNat)
   (hsl : ∀ W, (Instr.slice 9 (.string id) (some (.int .i64 6)) none none).run Tryd.prog W = .ok (.string r0) W)
   (hsl0 : ∀ W, (Instr.slice 9 (.string r0) (some (.int .i64 1)) none none).run Tryd.prog W = .ok (.string r) W) (hs0 : 0 < r0.size) (hm : ((r0[0].toNat : Int) == 45) = true) (hr1 : 0 < r.size) (hr2 : r.size ≤ 19)
   (hdig : ∀ k (h : k < r.size), 48 ≤ ((r[k]'h).toNat : Int) ∧ ((r[k]'h).toNat : Int) ≤ 57)
   (hlead : 1 < r.size → ((r[0].toNat : Int) == 48) = false)
   (hnum : Hid ((num r.data.toList : Int) = -n)) :
    Calls Tryd.prog 8 #[.string id, .int .i64 n] w fun e w' => e = .returned (.bool true) ∧ ∃ k, w' = w.drewN k := by
  have hz : ((r.size : Int) == 0) = false := by rw [beq_eq_false_iff_ne]; omega
  have hne : ¬ r = ByteArray.empty := by rintro rfl; simp at hr1
  by_cases hone : 1 < r.size
  all_goals
    go_enter Tryd.func8, Tryd.ntmps8
    go_wp2
    go_loopw [5] (fun i wr => ∃ k m : Nat, k ≤ 6 ∧ i = .int .i64 k ∧ wr = w.drewN m) (fun i _ => 6 - (intOf i).toNat)
    case atStart => exact ⟨0, 0, by omega, rfl, (World.drewN_zero _).symm⟩
    case round =>
      obtain ⟨k, m, hk, rfl, rfl⟩ := hrel
      by_cases hlt : k < 6
      · have hI : (k : Int) < 6 := by omega
        have hI2 : (k : Int) < id.size := by omega
        have hq := hpre k hlt
        have hq2 : (((id[k]'(by omega)).toNat : Int) != ((ByteArray.mk #[98, 108, 111, 99, 107, 45])[k]'hlt).toNat) = false := by rw [hq]; simp
        clear hq hpre hdig hlead
        go_wp2
        go_quiet (fail)
        go_wp2
        go_roundw
        case rel => exact ⟨k + 1, _, by omega, by go_num, rfl⟩
        case measure => simp [intOf]; omega
      · obtain rfl : k = 6 := by omega
        clear hlt hk hpre
        have hl := hlead
        clear hlead
        first | replace hl := hl hone | clear hl
        go_wp2_with fail
        go_loop [8, 9, 10] (fun u i _ => ∃ k a : Nat, k ≤ r.size ∧ i = .int .i64 k ∧ u = .int .u64 a ∧ Hid (a = num (r.data.toList.take k))) (fun _ i _ => r.size - (intOf i).toNat)
        case atStart => exact ⟨0, 0, by omega, rfl, rfl, by simp [Hid, num]⟩
        case round =>
          obtain ⟨k, a, hk, rfl, rfl, ha⟩ := hrel
          by_cases hlt : k < r.size
          · have hd := hdig k hlt
            obtain ⟨d1, d2⟩ := hd
            have hlt18 := num_take_lt r hr2 hdig k hlt
            have hst : Hid (((num (r.data.toList.take (k + 1)) : Nat) : Int) = (num (r.data.toList.take k) : Int) * 10 + (((r[k]'hlt).toNat : Int) - 48)) := num_step r k hlt d1
            have HL : Hid (num (r.data.toList.take k) < 1000000000000000000) := hlt18
            clear hlt18
            go_wp2
            go_round
            case rel =>
              have e1 := HL.out; have e2 := hst.out; have e3 := ha.out
              refine ⟨k + 1, num (r.data.toList.take (k + 1)), by omega, by go_num, ?_, rfl⟩
              rw [step_u _ _ (by omega) d1 d2 (by omega), e2, e3]
            case measure => simp [intOf]; omega
          · obtain rfl : k = r.size := by omega
            have e1 : Hid ((a : Int) = -n) := by
              have := ha.out
              rw [show r.data.toList.take r.size = r.data.toList from List.take_of_length_le (Nat.le_refl _)] at this
              rw [this]; exact hnum.out
            have ha0 : ((a : Int) == 0) = false := by have := e1.out; rw [beq_eq_false_iff_ne]; omega
            go_wp2
            go_ret
            have e2 := e1.out
            exact ⟨by simp [e2]; omega, _, rfl⟩

/-- The id's text. -/
def idOf (n : Int) : ByteArray := ByteArray.mk #[98, 108, 111, 99, 107, 45] ++ ⟨(Lib.itoa n).toArray⟩
theorem idOf_list (n : Int) : (idOf n).data.toList = [98, 108, 111, 99, 107, 45] ++ Lib.itoa n := by
  unfold idOf; rw [ByteArray.data_append]; simp
theorem idOf_size (n : Int) : (idOf n).size = 6 + (Lib.itoa n).length := by
  have h := congrArg List.length (idOf_list n)
  simp only [Array.length_toList, List.length_append, List.length_cons, List.length_nil] at h
  exact h
theorem ids_eq (a b : Int) : ((idOf a).toList == (idOf b).toList) = (a == b) := by
  rw [ByteArray.toList_eq, ByteArray.toList_eq, idOf_list, idOf_list, Bool.eq_iff_iff, beq_iff_eq, beq_iff_eq]
  exact ⟨fun h => itoa_inj a b (List.append_cancel_left h), fun h => by rw [h]⟩
theorem get_of_list (s : ByteArray) (l : List UInt8) (h : s.data.toList = l) (k : Nat) (hk : k < s.size) : l[k]? = some s[k] := by
  subst h
  rw [List.getElem?_eq_getElem (by simpa using hk)]; rfl
theorem slice_run (s : ByteArray) (k : Nat) (hk : k ≤ s.size) (W : World) : (Instr.slice 9 (.string s) (some (.int .i64 k)) none none).run Tryd.prog W = .ok (.string (s.extract k s.size)) W := by
  rw [run_slice_string_from_if W 9 s .i64 k Tryd.underlying9, if_pos (by omega)]; simp
theorem extract_list (s : ByteArray) (k : Nat) : (s.extract k s.size).data.toList = s.data.toList.drop k := by
  rw [Lib.extract_data]; exact List.take_of_length_le (by simp)
theorem size_list (s : ByteArray) (l : List UInt8) (h : s.data.toList = l) : s.size = l.length := by subst h; simp
theorem pre_fact (n : Int) (k : Nat) (h : k < 6) (h2 : k < (idOf n).size) : (((idOf n)[k]'h2).toNat : Int) = ((ByteArray.mk #[98, 108, 111, 99, 107, 45])[k]'h).toNat := by
  have e := get_of_list (idOf n) _ (idOf_list n) k h2
  rw [List.getElem?_append_left (by simpa using h)] at e
  have e2 := get_of_list (ByteArray.mk #[98, 108, 111, 99, 107, 45]) [98, 108, 111, 99, 107, 45] rfl k h
  rw [e] at e2
  rw [Option.some.inj e2]

theorem names_any (n : Int) (w : World) (h0 : -9223372036854775808 ≤ n) (h1 : n ≤ 9223372036854775807) :
    Calls Tryd.prog 8 #[.string (idOf n), .int .i64 n] w fun e w' => e = .returned (.bool true) ∧ ∃ k, w' = w.drewN k := by
  have hsz := idOf_size n
  by_cases hn : n < 0
  · obtain ⟨u, hu⟩ : ∃ u : Nat, n = -(u : Int) := ⟨n.natAbs, by omega⟩
    have hit : Lib.itoa n = 45 :: Lib.decDigits u := by rw [hu]; exact Lib.itoa_neg u (by omega)
    have hl1 := dec_ne u
    have hl2 := dec_len u (by omega)
    have hlen : (Lib.itoa n).length = (Lib.decDigits u).length + 1 := by rw [hit]; rfl
    have e0 : ((idOf n).extract 6 (idOf n).size).data.toList = 45 :: Lib.decDigits u := by rw [extract_list, idOf_list, hit]; rfl
    generalize hr0 : (idOf n).extract 6 (idOf n).size = r0 at e0
    have s0 := size_list r0 _ e0
    have e1 : (r0.extract 1 r0.size).data.toList = Lib.decDigits u := by rw [extract_list, e0]; rfl
    generalize hr : r0.extract 1 r0.size = r at e1
    have s1 := size_list r _ e1
    simp only [List.length_cons] at s0
    have gd : ∀ k (h : k < r.size), (Lib.decDigits u)[k]? = some r[k] := fun k h => get_of_list r _ e1 k h
    refine names_neg (idOf n) r0 r n w (by omega) (by omega) hn h0 (fun k h => pre_fact n k h _) (fun W => by rw [← hr0]; exact slice_run (idOf n) 6 (by omega) W) (fun W => by rw [← hr]; exact slice_run r0 1 (by omega) W) (by omega) ?_ (by omega) (by omega) (fun k h => ?_) (fun h => ?_) ?_
    · have := get_of_list r0 _ e0 0 (by omega)
      simp only [List.getElem?_cons_zero, Option.some.injEq] at this
      rw [← this]; rfl
    · have := dig_dec u _ (List.mem_of_getElem? (gd k h)); unfold dig at this; omega
    · have := dec_head u (dec_len1 u (by omega)) _ (gd 0 (by omega)); rw [beq_eq_false_iff_ne]; omega
    · show ((num r.data.toList : Nat) : Int) = -n
      rw [e1, num_dec]; omega
  · obtain ⟨u, hu⟩ : ∃ u : Nat, n = (u : Int) := ⟨n.toNat, by omega⟩
    have hit : Lib.itoa n = Lib.decDigits u := by rw [hu]; exact Lib.itoa_nonneg u
    have hl1 := dec_ne u
    have hl2 := dec_len u (by omega)
    have hlen : (Lib.itoa n).length = (Lib.decDigits u).length := by rw [hit]
    have e1 : ((idOf n).extract 6 (idOf n).size).data.toList = Lib.decDigits u := by rw [extract_list, idOf_list, hit]; rfl
    generalize hr : (idOf n).extract 6 (idOf n).size = r at e1
    have s1 := size_list r _ e1
    have gd : ∀ k (h : k < r.size), (Lib.decDigits u)[k]? = some r[k] := fun k h => get_of_list r _ e1 k h
    refine names_pos (idOf n) r n w (by omega) (by omega) (by omega) h1 (fun k h => pre_fact n k h _) (fun W => by rw [← hr]; exact slice_run (idOf n) 6 (by omega) W) (by omega) (by omega) (fun k h => ?_) (fun h => ?_) ?_
    · have := dig_dec u _ (List.mem_of_getElem? (gd k h)); unfold dig at this; omega
    · have := dec_head u (dec_len1 u (by omega)) _ (gd 0 (by omega)); rw [beq_eq_false_iff_ne]; omega
    · show ((num r.data.toList : Nat) : Int) = n
      rw [e1, num_dec]; omega
end Go.Proofs.Qxb6616925aDoor
