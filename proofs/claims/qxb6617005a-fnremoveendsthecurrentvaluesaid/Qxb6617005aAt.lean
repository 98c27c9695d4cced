import Derived.Test.Qxb6617005aSearch
import Derived.WalkKit
import Derived.WalkSpells
import Derived.WalkLawsBesides
import Derived.Deep.QuietTactic
import Derived.BigQuiet
namespace Go.Proofs.Qxb6617005a
open Go.RowKit
/-- What is handed back: a zero attribute.Value, and v. -/
def zeroV : Value := .agg #[.int .u8 0, .bool false, .nilIface]
def Stood (R : Nat → Int) (r : Int) (n : Nat) : Prop := n ≠ 0 ∧ (R (n - 1) = 0 ∨ r < R (n - 1))
def Writ (A : Nat → Int) (n : Nat) (t : Int) (e : Ending) : Prop := ∃ i : Nat, e = .returned (.int .i64 i) ∧ Cut A n t i
set_option maxHeartbeats 400000 in
theorem written_any (A R : Nat → Int) (ad : Option Addr) (n c : Nat) (r : Int) (w : World) (hn : n ≤ 65536) (h : VS w ad n A R) (hm : Mono A n) (hr0 : 0 ≤ r) (hr : r < 18446744073709551615) :
    Calls Try.prog 35 #[.slice ad n c, .int .u64 r] w fun e w' => Writ A n (r + 1) e ∧ Below w.heap.size w w' := by
  go_enter Try.func35, Try.ntmps35
  have hw1 : IntKind.u64.wrap (r + 1) = r + 1 := by rw [IntKind.wrap_u64]; omega
  have HS := hide (search_any A R ad n c (r + 1) w hn h hm)
  clear h hm
  go_wp2_with (go_at_call 37; refine HS.out.mono ?_; rintro e w' ⟨⟨i, v, rfl, hc⟩, hb⟩)
  go_ret
  exact ⟨⟨i, rfl, hc⟩, hb⟩

def AtR (A R : Nat → Int) (n : Nat) (r : Int) (e : Ending) : Prop := ∃ (i : Nat) (v : Bool), e = .returned (.tuple #[zeroV, .bool v]) ∧ Cut A n (r + 1) i ∧ (v = true ↔ Stood R r i)
set_option maxHeartbeats 400000 in
theorem at_any (A R : Nat → Int) (ad : Option Addr) (n c : Nat) (r : Int) (w : World) (hn : n ≤ 65536) (h : VS w ad n A R) (hm : Mono A n) (hr0 : 0 ≤ r) (hr : r < 18446744073709551615) :
    Calls Try.prog 19 #[.slice ad n c, .int .u64 r] w fun e w' => AtR A R n r e ∧ Below w.heap.size w w' := by
  have HW := hide (written_any A R ad n c r (w.alloc (.cells #[.int .u8 0, .bool false, .nilIface] 31)) hn (h.below ((Below.refl _ _).alloc (Nat.le_refl _) _)) hm hr0 hr)
  go_enter Try.func19, Try.ntmps19
  go_wp2_with fail
  refine HW.out.mono ?_
  rintro e w1 ⟨⟨i, rfl, hc⟩, hb⟩
  obtain ⟨hbc, hbf⟩ := bcell hb
  have hz : w.heap.size + 1 ≤ w1.heap.size := by have := hb.size; simpa using this
  have HB : Hid (Below w.heap.size w w1) := ((Below.refl _ _).alloc (Nat.le_refl _) _).trans (hb.mono (by simp))
  have HV := hide (h.below HB.out)
  clear hb h hm HW
  have hle : w.heap.size ≤ w.heap.size := Nat.le_refl _
  by_cases hi : i = 0
  · subst hi
    clear HV
    go_wp2_with fail
    refine bodyPost_ret (v := .tuple #[zeroV, .bool false]) (by simp [results, Try.results19, go_sem, hbc, zeroV]) rfl ⟨⟨0, false, rfl, hc, by simp [Stood]⟩, ?_⟩
    exact ((HB.out.setCell hle _).setCell hle _).setCell hle _
  · obtain ⟨k, rfl⟩ : ∃ k, i = k + 1 := ⟨i - 1, by omega⟩
    have hkn : k < n := hc.1
    obtain ⟨B, o, rfl, hs⟩ := HV.out k hkn
    have hlt := hs.lt
    obtain ⟨c0, c1, c2, c3, c4⟩ := hs
    have hkn2 : (k : Int) < n := by omega
    have r0 : w1.cell? ⟨w.heap.size, 0, none⟩ = some (.int .u8 0) := by rw [hbc _ _ (by simp)]; simp
    have r1 : w1.cell? ⟨w.heap.size, 1, none⟩ = some (.bool false) := by rw [hbc _ _ (by simp)]; simp
    have r2 : w1.cell? ⟨w.heap.size, 2, none⟩ = some .nilIface := by rw [hbc _ _ (by simp)]; simp
    have q0 : ∀ i, w1.frozen? ⟨w.heap.size, i, none⟩ = false := fun i => by rw [hbf _ _ (by simp)]; simp
    clear hbc hbf HV
    have hlw : w.heap.size < w1.heap.size := hz
    go_wp2_with fail
    · refine bodyPost_ret (v := .tuple #[zeroV, .bool true]) (by simp [results, Try.results19, go_sem, r0, r1, r2, hlw, zeroV]) rfl ⟨⟨k + 1, true, rfl, hc, ?_⟩, ?_⟩
      · refine ⟨fun _ => ⟨by omega, ?_⟩, fun _ => rfl⟩
        simp only [Nat.add_sub_cancel]; left; assumption
      · exact (((HB.out.setCell hle _).setCell hle _).setCell hle _).alloc (by simp; omega) _
    · have hd : (R k == 0) = true ∨ r < R k := by assumption
      refine bodyPost_ret (v := .tuple #[zeroV, .bool true]) (by simp [results, Try.results19, go_sem, r0, r1, r2, hlw, zeroV]) rfl ⟨⟨k + 1, true, rfl, hc, ?_⟩, ?_⟩
      · refine ⟨fun _ => ⟨by omega, ?_⟩, fun _ => rfl⟩
        simp only [Nat.add_sub_cancel]; simpa using hd
      · exact (((HB.out.setCell hle _).setCell hle _).setCell hle _).alloc (by simp; omega) _
    · have hd : (R k == 0) = false ∧ R k ≤ r := by assumption
      refine bodyPost_ret (v := .tuple #[zeroV, .bool false]) (by simp [results, Try.results19, go_sem, r0, r1, r2, hlw, zeroV]) rfl ⟨⟨k + 1, false, rfl, hc, ?_⟩, ?_⟩
      · refine ⟨(fun h => by cases h), fun h => ?_⟩
        have h2 := h.2
        simp only [Nat.add_sub_cancel] at h2
        have h3 : ¬ R k = 0 := by simpa using hd.1
        omega
      · exact (((HB.out.setCell hle _).setCell hle _).setCell hle _).alloc (by simp; omega) _
end Go.Proofs.Qxb6617005a
