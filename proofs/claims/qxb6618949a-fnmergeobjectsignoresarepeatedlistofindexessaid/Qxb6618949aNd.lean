import Derived.Test.Qxb6618949aNc
import Derived.WalkKit
import Derived.WalkSpells
import Derived.WalkLawsBesides
import Derived.Deep.QuietTactic
import Derived.BigQuiet
import Derived.Lib.Bytealg
import Derived.Laws.Externs
namespace Go.Proofs.Qxb6618949a
open Go.RowKit
set_option linter.unusedVariables false
/-- The byte array r holds the first n numbers of X. -/
def Holds (X : Nat → Int) (n : Nat) (r : ByteArray) : Prop := r.size = n ∧ ∀ i, i < n → r[i]! = (X i).toNat.toUInt8
theorem byte_toNat {x : Int} (h0 : 0 ≤ x) (h1 : x ≤ 255) : (x.toNat.toUInt8).toNat = x.toNat := by
  show (UInt8.ofNat x.toNat).toNat = _
  rw [UInt8.toNat_ofNat']; omega
theorem push_get (r : ByteArray) (b : UInt8) (i : Nat) (h : i < r.size) : (r.push b)[i]! = r[i]! := by
  have h2 : i < (r.push b).size := by rw [ByteArray.size_push]; omega
  rw [getElem!_pos (r.push b) i h2, getElem!_pos r i h]
  show (r.data.push b)[i] = r.data[i]
  exact Array.getElem_push_lt h
theorem push_last (r : ByteArray) (b : UInt8) : (r.push b)[r.size]! = b := by
  have h2 : r.size < (r.push b).size := by rw [ByteArray.size_push]; omega
  rw [getElem!_pos (r.push b) r.size h2]
  show (r.data.push b)[r.data.size] = b
  exact Array.getElem_push_eq
theorem run_bytes (b : Nat) (X : Nat → Int) (W : World) : ∀ (n off : Nat) (k : Nat) (acc : ByteArray), Holds X k acc → (∀ i, i < n → W.cell? ⟨b, off + i, none⟩ = some (.int .u8 (X (k + i)))) →
    ∃ r, (Extern.Bytes.loadBytes ⟨b, off, none⟩ n acc).run Try.prog W = .ok r W ∧ Holds X (k + n) r
  | 0, off, k, acc, ha, hc => ⟨acc, rfl, ha⟩
  | n + 1, off, k, acc, ha, hc => by
    have h0 := hc 0 (by omega)
    have hs : Holds X (k + 1) (acc.push (X k).toNat.toUInt8) := by
      refine ⟨by rw [ByteArray.size_push, ha.1], fun i hi => ?_⟩
      by_cases h : i < k
      · rw [push_get _ _ _ (by rw [ha.1]; exact h)]; exact ha.2 i h
      · obtain rfl : i = k := by omega
        have := push_last acc (X i).toNat.toUInt8
        rw [ha.1] at this; exact this
    obtain ⟨r, hr, hh⟩ := run_bytes b X W n (off + 1) (k + 1) _ hs (fun i hi => by
      have := hc (i + 1) (by omega)
      rw [show off + 1 + i = off + (i + 1) by omega, show k + 1 + i = k + (i + 1) by omega]; exact this)
    refine ⟨r, ?_, by rw [show k + (n + 1) = k + 1 + n by omega]; exact hh⟩
    rw [← hr]
    simp only [Nat.add_zero] at h0
    rw [Extern.Bytes.loadBytes, Sem.run_bind, run_load, h0]
    simp only [Result.andThen, add_none]
theorem cmp_lex {X Y : Nat → Int} {n : Nat} {r s : ByteArray} (hr : Holds X n r) (hs : Holds Y n s) (hX : ∀ i, i < n → 0 ≤ X i ∧ X i ≤ 255) (hY : ∀ i, i < n → 0 ≤ Y i ∧ Y i ≤ 255) : IsLex X Y n (Extern.BytealgCompare.cmp r s) := by
  have heq : ∀ i, i < n → ((r[i]! != s[i]!) = false ↔ X i = Y i) := fun i hi => by
    have h1 := hX i hi
    have h2 := hY i hi
    rw [hr.2 i hi, hs.2 i hi, bne_eq_false_iff_eq, ← UInt8.toNat_inj, byte_toNat h1.1 h1.2, byte_toNat h2.1 h2.2]
    omega
  have hlt : ∀ i, i < n → (r[i]! < s[i]! ↔ X i < Y i) := fun i hi => by
    have h1 := hX i hi
    have h2 := hY i hi
    rw [hr.2 i hi, hs.2 i hi, UInt8.lt_iff_toNat_lt, byte_toNat h1.1 h1.2, byte_toNat h2.1 h2.2]
    omega
  unfold Extern.BytealgCompare.cmp
  rw [hr.1, hs.1, Nat.min_self]
  cases hf : (List.range n).find? (fun i => r[i]! != s[i]!) with
  | none =>
    rw [List.find?_range_eq_none] at hf
    refine .inl ⟨by simp, fun i hi => (heq i hi).1 (by simpa using hf i hi)⟩
  | some i =>
    rw [List.find?_range_eq_some] at hf
    obtain ⟨h1, h2, h3⟩ := hf
    have hi : i < n := List.mem_range.1 h2
    have hne : ¬ X i = Y i := fun h => by rw [← heq i hi] at h; rw [h] at h1; cases h1
    have hall : ∀ j, j < i → X j = Y j := fun j hj => (heq j (by omega)).1 (by simpa using h3 j hj)
    by_cases g : X i < Y i
    · refine .inr (.inl ⟨?_, i, hi, hall, g⟩)
      simp only [if_pos ((hlt i hi).2 g)]
    · refine .inr (.inr ⟨?_, i, hi, hall, by omega⟩)
      have := mt (hlt i hi).1 g
      simp only [if_neg this]
theorem run_cmp {b1 o1 c1 b2 o2 c2 n : Nat} {X Y : Nat → Int} {W : World} (h1 : ∀ i, i < n → W.cell? ⟨b1, o1 + i, none⟩ = some (.int .u8 (X i))) (h2 : ∀ i, i < n → W.cell? ⟨b2, o2 + i, none⟩ = some (.int .u8 (Y i)))
    (hX : ∀ i, i < n → 0 ≤ X i ∧ X i ≤ 255) (hY : ∀ i, i < n → 0 ≤ Y i ∧ Y i ≤ 255) :
    ∃ v, IsLex X Y n v ∧ (Extern.BytealgCompare.compare #[.slice (some ⟨b1, o1, none⟩) n c1, .slice (some ⟨b2, o2, none⟩) n c2]).run Try.prog W = .ok (.int .i64 v) W := by
  have h0 : ∀ Z : Nat → Int, Holds Z 0 .empty := fun Z => ⟨rfl, fun i hi => by omega⟩
  obtain ⟨r, hr, hr2⟩ := run_bytes b1 X W n o1 0 .empty (h0 X) (fun i hi => by rw [Nat.zero_add]; exact h1 i hi)
  obtain ⟨s, hs, hs2⟩ := run_bytes b2 Y W n o2 0 .empty (h0 Y) (fun i hi => by rw [Nat.zero_add]; exact h2 i hi)
  rw [Nat.zero_add] at hr2 hs2
  refine ⟨_, cmp_lex hr2 hs2 hX hY, ?_⟩
  change Sem.run Try.prog (do pure (goInt (Extern.BytealgCompare.cmp (← Extern.Bytes.bytesOf (.slice (some ⟨b1, o1, none⟩) n c1)) (← Extern.Bytes.bytesOf (.slice (some ⟨b2, o2, none⟩) n c2))))) W = _
  simp only [Extern.Bytes.bytesOf, Sem.run_bind, Sem.run_pure, hr, hs, Result.andThen]
  rfl
set_option maxHeartbeats 400000 in
/-- bytes.Compare. -/
theorem cmp_any (b1 o1 c1 b2 o2 c2 n : Nat) (X Y : Nat → Int) (w : World) (h1 : ∀ i, i < n → w.cell? ⟨b1, o1 + i, none⟩ = some (.int .u8 (X i))) (h2 : ∀ i, i < n → w.cell? ⟨b2, o2 + i, none⟩ = some (.int .u8 (Y i)))
    (hX : ∀ i, i < n → 0 ≤ X i ∧ X i ≤ 255) (hY : ∀ i, i < n → 0 ≤ Y i ∧ Y i ≤ 255) :
    Calls Try.prog 33 #[.slice (some ⟨b1, o1, none⟩) n c1, .slice (some ⟨b2, o2, none⟩) n c2] w fun e w' => RetLex X Y n e ∧ w' = w := by
  obtain ⟨v, hv, hrun⟩ := run_cmp (c1 := c1) (c2 := c2) h1 h2 hX hY
  have HV := hide hv
  clear h1 h2 hX hY hv
  go_enter Try.func33, Try.ntmps33
  go_wp2_with fail
  rw [run_callFunc_extern Try.func39 (by kernel_rfl) (by kernel_rfl) (by kernel_rfl) (e := Extern.BytealgCompare.compare) (by kernel_rfl), hrun]
  simp only [Result.andThen]
  rw [Oper.upon_value]
  go_wp2
  go_ret
  exact ⟨⟨v, rfl, HV.out⟩, rfl⟩
theorem mask_eq (i : Nat) (hi : i < 16384) : bits .and .i64 (i : Int) 16383 = (i : Int) := by
  have hb : (BitVec.ofInt 64 (i : Int) &&& BitVec.ofInt 64 (16383 : Int)).toNat = i := by
    rw [BitVec.toNat_and]
    have h1 : (BitVec.ofInt 64 (i : Int)).toNat = i := by simp; omega
    have h2 : (BitVec.ofInt 64 (16383 : Int)).toNat = 2 ^ 14 - 1 := by decide
    rw [h1, h2, Nat.and_two_pow_sub_one_eq_mod]; omega
  show IntKind.i64.wrap ((BitVec.ofInt 64 (i : Int) &&& BitVec.ofInt 64 (16383 : Int)).toNat : Nat) = _
  rw [hb, wrap_same (by omega) (by omega)]
/-- The column: its struct in block Bc, its list of blocks in block Bb, its bytes in block B. -/
def Col (w : World) (Bc Bb B wd n L : Nat) : Prop :=
  w.cell? ⟨Bc, 0, none⟩ = some (.int .i64 wd) ∧ w.cell? ⟨Bc, 3, none⟩ = some (.slice (some ⟨Bb, 0, none⟩) 1 1) ∧ w.cell? ⟨Bb, 0, none⟩ = some (.slice (some ⟨B, 0, none⟩) L L)
set_option maxHeartbeats 800000 in
theorem row_any (Bc Bb B wd n L i I : Nat) (w : World) (hw0 : 0 < wd) (hw : wd ≤ 32) (hi : i < 16384) (hI : I = i * wd) (hIL : I + wd ≤ L) (hL : L ≤ 1048576) (h : Col w Bc Bb B wd n L) :
    Calls Try.prog 34 #[.pointer (some ⟨Bc, 0, none⟩), .int .i64 i] w fun e w' => e = .returned (.slice (some ⟨B, I, none⟩) wd wd) ∧ ∃ m, w' = w.drewN m := by
  obtain ⟨h0, h3, hb⟩ := h
  have hm : bits .and .i64 (i : Int) 16383 = (i : Int) := mask_eq i hi
  have hsh : (i : Int) / 16384 = 0 := by omega
  have hmul : (i : Int) * (wd : Int) = (I : Int) := by rw [hI]; simp
  have hc := run_cut3 B 0 L L I (I + wd) (I : Int) ((I : Int) + (wd : Int)) ((I : Int) + (wd : Int)) rfl (by omega) (by omega) (by omega) hIL
  rw [Nat.add_sub_cancel_left, Nat.zero_add] at hc
  clear hI
  go_enter Try.func34, Try.ntmps34
  go_wp2_with fail
  go_quiet (fail)
  go_wp2_with fail
  go_ret
  exact ⟨rfl, _, rfl⟩
end Go.Proofs.Qxb6618949a
