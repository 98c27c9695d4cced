import Derived.Test.Qxb6618949aMn
import Derived.Laws.BytesArg
import Derived.WalkKit
import Derived.WalkSpells
import Derived.WalkLawsBesides
namespace Go.Proofs.Qxb6618949a
open Go.RowKit
set_option linter.unusedVariables false
theorem str_of (b o wd c : Nat) (X : Nat → Int) (w : World) (h : ∀ t, t < wd → w.cell? ⟨b, o + t, none⟩ = some (.int .u8 (X t))) :
    (convert 25 9 (.slice (some ⟨b, o, none⟩) wd c)).run Try.prog w = .ok (.string (strOfNums ((List.range wd).map X))) w := by
  refine run_convert_bytes_arg w 25 5 Try.underlying25 Try.underlying5 b o wd c ((List.range wd).map X) (by simp) (fun i hi => ?_) 9 Try.underlying9
  rw [h i hi]; simp [List.getD, hi]
theorem str_eq {X Y : Nat → Int} {n : Nat} (hX : ∀ i, i < n → 0 ≤ X i ∧ X i ≤ 255) (hY : ∀ i, i < n → 0 ≤ Y i ∧ Y i ≤ 255) :
    ((strOfNums ((List.range n).map X)).toList == (strOfNums ((List.range n).map Y)).toList) = decide (key X n = key Y n) := by
  rw [Bool.eq_iff_iff, beq_iff_eq, decide_eq_true_iff, ByteArray.toList_eq, ByteArray.toList_eq, strOfNums_data, strOfNums_data]
  constructor
  · intro h
    refine key_congr n fun i hi => ?_
    have h2 := congrArg (fun l : List UInt8 => l[i]?) h
    simp [hi] at h2
    have a := hX i hi
    have b := hY i hi
    have h3 := congrArg UInt8.toNat h2
    have e1 := byte_toNat a.1 a.2
    have e2 := byte_toNat b.1 b.2
    simp only [Nat.toUInt8] at e1 e2
    rw [e1, e2] at h3
    omega
  · intro h
    have h2 := key_inj hX hY h
    rw [List.map_map, List.map_map]
    refine List.map_congr_left fun i hi => ?_
    simp only [Function.comp]
    rw [h2 i (List.mem_range.1 hi)]
set_option maxHeartbeats 400000 in
theorem equal_any (b1 o1 c1 b2 o2 c2 n : Nat) (X Y : Nat → Int) (w : World) (h1 : ∀ i, i < n → w.cell? ⟨b1, o1 + i, none⟩ = some (.int .u8 (X i))) (h2 : ∀ i, i < n → w.cell? ⟨b2, o2 + i, none⟩ = some (.int .u8 (Y i)))
    (hX : ∀ i, i < n → 0 ≤ X i ∧ X i ≤ 255) (hY : ∀ i, i < n → 0 ≤ Y i ∧ Y i ≤ 255) :
    Calls Try.prog 30 #[.slice (some ⟨b1, o1, none⟩) n c1, .slice (some ⟨b2, o2, none⟩) n c2] w fun e w' => e = .returned (.bool (decide (key X n = key Y n))) ∧ w' = w := by
  obtain ⟨s1, hs1⟩ : ∃ s, s = strOfNums ((List.range n).map X) := ⟨_, rfl⟩
  obtain ⟨s2, hs2⟩ : ∃ s, s = strOfNums ((List.range n).map Y) := ⟨_, rfl⟩
  have e1 := str_of b1 o1 n c1 X w h1
  have e2 := str_of b2 o2 n c2 Y w h2
  rw [← hs1] at e1
  rw [← hs2] at e2
  have HS := hide (And.intro hs1 hs2)
  have HX := hide (And.intro hX hY)
  clear hs1 hs2 h1 h2 hX hY
  go_enter Try.func30, Try.ntmps30
  go_wp2_with fail
  go_ret
  refine ⟨?_, rfl⟩
  have hE : (s1.toList == s2.toList) = decide (key X n = key Y n) := by
    rw [HS.out.1, HS.out.2]; exact str_eq HX.out.1 HX.out.2
  show Ending.returned (.bool (s1.toList == s2.toList)) = _
  rw [hE]
end Go.Proofs.Qxb6618949a
