import Derived.Test.Qxb6617005aSearch
import Derived.WalkKit
import Derived.WalkSpells
import Derived.WalkLawsBesides
import Derived.Deep.QuietTactic
import Derived.BigQuiet
import Derived.Deep.RegionHeld3
namespace Go.Proofs.Qxb6617005a
open Go.RowKit
set_option linter.unusedVariables false
set_option maxHeartbeats 400000 in
theorem remove_nil (ad : Option Addr) (c : Nat) (r : Int) (w : World) :
    Calls Try.prog 16 #[.slice ad 0 c, .int .u64 r] w fun e w' => e = .returned (.tuple #[.agg #[.int .u8 0, .bool false, .nilIface], .bool false]) ∧ w' = w.alloc (.cells #[.int .u8 0, .bool false, .nilIface] 31) := by
  go_enter Try.func16, Try.ntmps16
  go_wp2_with fail
  exact bodyPost_ret (v := .tuple #[.agg #[.int .u8 0, .bool false, .nilIface], .bool false]) (by simp [results, Try.results16, go_sem]) rfl ⟨rfl, rfl⟩
set_option maxHeartbeats 400000 in
theorem remove_no (B m c : Nat) (a q r : Int) (w : World) (hm : m < 65536) (hs : SpanAt w B (m * 5) a q) (hq : (q != 0) = true) :
    Calls Try.prog 16 #[.slice (some ⟨B, 0, none⟩) (m + 1) c, .int .u64 r] w fun e w' => e = .returned (.tuple #[.agg #[.int .u8 0, .bool false, .nilIface], .bool false]) ∧ w' = w.alloc (.cells #[.int .u8 0, .bool false, .nilIface] 31) := by
  have hlt := hs.lt
  obtain ⟨c0, c1, c2, c3, c4⟩ := hs
  go_enter Try.func16, Try.ntmps16
  go_wp2_with fail
  exact bodyPost_ret (v := .tuple #[.agg #[.int .u8 0, .bool false, .nilIface], .bool false]) (by simp [results, Try.results16, go_sem]) rfl ⟨rfl, rfl⟩
set_option maxHeartbeats 400000 in
theorem remove_yes (B m c : Nat) (a r : Int) (w : World) (hm : m < 65536) (hs : SpanAt w B (m * 5) a 0) (hf : ∀ i, w.frozen? ⟨B, i, none⟩ = false) :
    Calls Try.prog 16 #[.slice (some ⟨B, 0, none⟩) (m + 1) c, .int .u64 r] w fun e w' => e = .returned (.tuple #[.agg #[.int .u8 0, .bool false, .nilIface], .bool true]) ∧ w' = (w.setCell ⟨B, m * 5 + 4, none⟩ (.int .u64 r)).alloc (.cells #[.int .u8 0, .bool false, .nilIface] 31) := by
  have hlt := hs.lt
  obtain ⟨c0, c1, c2, c3, c4⟩ := hs
  go_enter Try.func16, Try.ntmps16
  go_wp2_with fail
  exact bodyPost_ret (v := .tuple #[.agg #[.int .u8 0, .bool false, .nilIface], .bool true]) (by simp [results, Try.results16, go_sem]) rfl ⟨rfl, rfl⟩

set_option maxHeartbeats 400000 in
theorem added_any (B o k n c : Nat) (a q : Int) (w : World) (hn : n ≤ 65536) (hk : k < n) (hs : SpanAt w B (o + k * 5) a q) :
    Calls Try.prog 17 #[.slice (some ⟨B, o, none⟩) n c, .int .i64 k] w fun e w' => e = .returned (.int .u64 a) ∧ w' = w := by
  obtain ⟨c0, c1, c2, c3, c4⟩ := hs
  have hI : (k : Int) < n := by omega
  go_enter Try.func17, Try.ntmps17
  go_wp2_with fail
  go_ret
  exact ⟨rfl, rfl⟩
set_option maxHeartbeats 400000 in
theorem removed_any (B o k n c : Nat) (a q : Int) (w : World) (hn : n ≤ 65536) (hk : k < n) (hs : SpanAt w B (o + k * 5) a q) :
    Calls Try.prog 18 #[.slice (some ⟨B, o, none⟩) n c, .int .i64 k] w fun e w' => e = .returned (.int .u64 q) ∧ w' = w := by
  obtain ⟨c0, c1, c2, c3, c4⟩ := hs
  have hI : (k : Int) < n := by omega
  go_enter Try.func18, Try.ntmps18
  go_wp2_with fail
  go_ret
  exact ⟨rfl, rfl⟩
def IsB (e : Ending) : Prop := ∃ v, e = .returned (.bool v)
theorem IsB.mk (v : Bool) : IsB (.returned (.bool v)) := ⟨v, rfl⟩
set_option maxHeartbeats 400000 in
theorem bytes11 (ad : Option Addr) (n c : Nat) (a b : Int) (w : World) (hn : n ≤ maxLen) : Calls Try.prog 11 #[.slice ad n c, .int .u64 a, .int .u64 b] w fun e w' => IsB e ∧ w' = w := by
  unfold maxLen at hn
  go_enter Try.func11, Try.ntmps11
  go_wp2_with fail
  all_goals (go_ret; exact ⟨.mk _, rfl⟩)
set_option maxHeartbeats 400000 in
theorem bytes20 (ad : Option Addr) (n c : Nat) (a : Int) (w : World) (hn : n ≤ maxLen) : Calls Try.prog 20 #[.slice ad n c, .int .u64 a] w fun e w' => IsB e ∧ w' = w := by
  unfold maxLen at hn
  go_enter Try.func20, Try.ntmps20
  go_wp2_with fail
  all_goals (go_ret; exact ⟨.mk _, rfl⟩)
set_option maxHeartbeats 400000 in
theorem bytes23 (ad : Option Addr) (n c : Nat) (a b : Int) (w : World) (hn : n ≤ maxLen) : Calls Try.prog 23 #[.slice ad n c, .int .u64 a, .int .u64 b] w fun e w' => IsB e ∧ w' = w := by
  unfold maxLen at hn
  go_enter Try.func23, Try.ntmps23
  go_wp2_with fail
  all_goals (go_ret; exact ⟨.mk _, rfl⟩)
end Go.Proofs.Qxb6617005a
