/-
  THE WALK OF IsHeaderSafe (function 6): it computes 'safeB'; and of the two length guards (5, 7).
-/
import Derived.Test.Qxb6627813aRows
import Derived.Test.Qxb6627813aSafe
import Derived.WalkKit
import Derived.WalkSpells
namespace Go.Proofs.Qxb6627813a
open Go.RowKit

theorem ret_bool {a b : Bool} (h : a = b) : Ending.returned (.bool a) = .returned (.bool b) := by rw [h]

set_option maxHeartbeats 400000 in
theorem safe_any (s : ByteArray) (w : World) (hs : s.size ≤ maxLen) :
    Calls Try.prog 6 #[.string s] w fun e w' => e = .returned (.bool (safeB s)) ∧ w' = w := by
  unfold maxLen at hs
  go_enter Try.func6, Try.ntmps6
  go_wp2
  go_loop [3] (fun i => ∃ k : Nat, k ≤ s.size ∧ i = .int .i64 k ∧ Hid (safeL (s.data.toList.take k) = true)) (fun i => s.size - (intOf i).toNat)
  case atStart => exact ⟨0, Nat.zero_le _, rfl, by unfold Hid; simp [safeL]⟩
  case round =>
    obtain ⟨k, hk, rfl, hsf⟩ := hrel
    by_cases hlt : k < s.size
    · go_wp2
      · go_ret
        exact ⟨ret_bool (safeB_false s k hlt (by omega)).symm, rfl⟩
      · go_round
        case rel => exact ⟨k + 1, by omega, by go_num, by unfold Hid; rw [safeL_take_succ s k hlt hsf.out]; unfold okB; simp; omega⟩
        case measure => simp [intOf]; omega
    · go_wp2
      go_ret
      exact ⟨ret_bool (safeB_true s k (by omega) hsf.out).symm, rfl⟩

set_option maxHeartbeats 400000 in
theorem guard5_yes (s : ByteArray) (k : Int) (w : World) (h : (s.size : Int) ≤ 1048576) :
    Calls Try.prog 5 #[.string s, .int .i64 k] w fun e w' => e = .returned (.bool true) ∧ w' = w := by
  go_enter Try.func5, Try.ntmps5
  go_wp2
  go_ret
  exact ⟨rfl, rfl⟩

set_option maxHeartbeats 400000 in
theorem guard5_no (s : ByteArray) (k : Int) (w : World) (h : ¬ (s.size : Int) ≤ 1048576) :
    Calls Try.prog 5 #[.string s, .int .i64 k] w fun e w' => e = .returned (.bool false) ∧ w' = w := by
  go_enter Try.func5, Try.ntmps5
  go_wp2
  go_ret
  exact ⟨rfl, rfl⟩

set_option maxHeartbeats 400000 in
theorem guard7_yes (s : ByteArray) (k c : Int) (w : World) (h : (s.size : Int) ≤ 1048576) :
    Calls Try.prog 7 #[.string s, .int .i64 k, .int .u8 c] w fun e w' => e = .returned (.bool true) ∧ w' = w := by
  go_enter Try.func7, Try.ntmps7
  go_wp2
  go_ret
  exact ⟨rfl, rfl⟩

set_option maxHeartbeats 400000 in
theorem guard7_no (s : ByteArray) (k c : Int) (w : World) (h : ¬ (s.size : Int) ≤ 1048576) :
    Calls Try.prog 7 #[.string s, .int .i64 k, .int .u8 c] w fun e w' => e = .returned (.bool false) ∧ w' = w := by
  go_enter Try.func7, Try.ntmps7
  go_wp2
  go_ret
  exact ⟨rfl, rfl⟩

end Go.Proofs.Qxb6627813a
