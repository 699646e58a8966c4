/-
  A PROOF OF 'Rows.FnIsHeaderSafeSplitAtAnyCutSaid'. The frame (from 'THE ROW's STEP' on) was written by the guide's program; the walk is this seat's own:
  every call of IsHeaderSafe is taken by the contract 'safe_any'; the answers of the five calls are fixed ahead of each walk (plain laws: Qxb6627813aSafe).
-/
import Derived.Test.Qxb6627813aRows
import Derived.WalkKit
import Derived.ProofKit
import Derived.OpenShut
import Derived.ShutString
import Derived.Test.Qxb6627813aSafeWalk
import Derived.WalkSpells
namespace Go.Proofs.Qxb6627813a.fnIsHeaderSafeSplitAtAnyCut
open Go.ChangeShapes Go.WideShapes Go.ChangeAt Go.RowKit
open Go.ChangeMaps (open_string shut_string)
set_option linter.unusedVariables false      -- a walk need not use every 'w<i>' (that an integer argument fits its kind)

theorem own : ownKnob Try.prog.godebug = none := by kernel_rfl

/-! ### STEP 1: THE WALK: the Go text returns true. 'Grown w w'': the world has at most new blocks (Derived/RowKit3.lean). Part the cases AHEAD of 'go_enter' where a test parts the walk; take each callee by a contract of your own. -/
theorem size_fits (s : ByteArray) (a b : Nat) (hs : s.size ≤ 1048576) : (s.extract a b).size ≤ maxLen := by
  unfold maxLen; simp; omega
theorem size_fits0 (s : ByteArray) (hs : s.size ≤ 1048576) : s.size ≤ maxLen := by
  unfold maxLen; omega
theorem size_fitsE : ByteArray.empty.size ≤ maxLen := by decide
theorem empty_safe : safeB ByteArray.empty = true := rfl

theorem walk_tt_end (s : ByteArray) (k : Nat) (hs : s.size ≤ 1048576) (hk : k ≤ s.size) (w : World) (h1 : safeB s = true) (hl : safeB (s.extract 0 k) = true) (hr : safeB (s.extract k s.size) = true) (he : safeB ByteArray.empty = true) (hlt : ¬ k < s.size) :
    Calls Try.prog 3 #[.string s, .int .i64 k] w fun e w' => e = .returned (.bool true) ∧ Grown w w' := by
  have hd : decide ((k : Int) < 0) = false := decide_eq_false (by omega)
  go_enter Try.func3, Try.ntmps3
  go_wp2_with (go_at_call 5; refine (guard5_yes _ _ _ (by omega)).mono ?_; rintro e w' ⟨rfl, rfl⟩)
  refine (safe_any _ _ (size_fits0 _ hs)).mono ?_
  rintro e w' ⟨rfl, rfl⟩
  go_wp2_with fail
  refine (safe_any _ _ (size_fits _ _ _ hs)).mono ?_
  rintro e w' ⟨rfl, rfl⟩
  go_wp2_with fail
  refine (safe_any _ _ (size_fits _ _ _ hs)).mono ?_
  rintro e w' ⟨rfl, rfl⟩
  go_wp2_with fail
  refine (safe_any _ _ size_fitsE).mono ?_
  rintro e w' ⟨rfl, rfl⟩
  go_wp2_with fail
  go_ret
  exact ⟨rfl, Grown.refl _⟩

theorem walk_tt_good (s : ByteArray) (k : Nat) (hs : s.size ≤ 1048576) (hk : k ≤ s.size) (w : World) (h1 : safeB s = true) (hl : safeB (s.extract 0 k) = true) (hr : safeB (s.extract k s.size) = true) (he : safeB ByteArray.empty = true) (hlt : k < s.size) (ho : safeB (s.extract k (k + 1)) = true) (hb : (s[k].toNat : Int) ≤ 126) :
    Calls Try.prog 3 #[.string s, .int .i64 k] w fun e w' => e = .returned (.bool true) ∧ Grown w w' := by
  have hd : decide ((k : Int) < 0) = false := decide_eq_false (by omega)
  go_enter Try.func3, Try.ntmps3
  go_wp2_with (go_at_call 5; refine (guard5_yes _ _ _ (by omega)).mono ?_; rintro e w' ⟨rfl, rfl⟩)
  refine (safe_any _ _ (size_fits0 _ hs)).mono ?_
  rintro e w' ⟨rfl, rfl⟩
  go_wp2_with fail
  refine (safe_any _ _ (size_fits _ _ _ hs)).mono ?_
  rintro e w' ⟨rfl, rfl⟩
  go_wp2_with fail
  refine (safe_any _ _ (size_fits _ _ _ hs)).mono ?_
  rintro e w' ⟨rfl, rfl⟩
  go_wp2_with fail
  refine (safe_any _ _ size_fitsE).mono ?_
  rintro e w' ⟨rfl, rfl⟩
  go_wp2_with fail
  refine (safe_any _ _ (size_fits _ _ _ hs)).mono ?_
  rintro e w' ⟨rfl, rfl⟩
  go_wp2_with fail
  go_ret
  exact ⟨rfl, Grown.refl _⟩

theorem walk_tt_bad (s : ByteArray) (k : Nat) (hs : s.size ≤ 1048576) (hk : k ≤ s.size) (w : World) (h1 : safeB s = true) (hl : safeB (s.extract 0 k) = true) (hr : safeB (s.extract k s.size) = true) (he : safeB ByteArray.empty = true) (hlt : k < s.size) (ho : safeB (s.extract k (k + 1)) = false) (hb : ¬ (s[k].toNat : Int) ≤ 126) :
    Calls Try.prog 3 #[.string s, .int .i64 k] w fun e w' => e = .returned (.bool true) ∧ Grown w w' := by
  have hd : decide ((k : Int) < 0) = false := decide_eq_false (by omega)
  go_enter Try.func3, Try.ntmps3
  go_wp2_with (go_at_call 5; refine (guard5_yes _ _ _ (by omega)).mono ?_; rintro e w' ⟨rfl, rfl⟩)
  refine (safe_any _ _ (size_fits0 _ hs)).mono ?_
  rintro e w' ⟨rfl, rfl⟩
  go_wp2_with fail
  refine (safe_any _ _ (size_fits _ _ _ hs)).mono ?_
  rintro e w' ⟨rfl, rfl⟩
  go_wp2_with fail
  refine (safe_any _ _ (size_fits _ _ _ hs)).mono ?_
  rintro e w' ⟨rfl, rfl⟩
  go_wp2_with fail
  refine (safe_any _ _ size_fitsE).mono ?_
  rintro e w' ⟨rfl, rfl⟩
  go_wp2_with fail
  refine (safe_any _ _ (size_fits _ _ _ hs)).mono ?_
  rintro e w' ⟨rfl, rfl⟩
  go_wp2_with fail
  go_ret
  exact ⟨rfl, Grown.refl _⟩

theorem walk_tf_end (s : ByteArray) (k : Nat) (hs : s.size ≤ 1048576) (hk : k ≤ s.size) (w : World) (h1 : safeB s = false) (hl : safeB (s.extract 0 k) = true) (hr : safeB (s.extract k s.size) = false) (he : safeB ByteArray.empty = true) (hlt : ¬ k < s.size) :
    Calls Try.prog 3 #[.string s, .int .i64 k] w fun e w' => e = .returned (.bool true) ∧ Grown w w' := by
  have hd : decide ((k : Int) < 0) = false := decide_eq_false (by omega)
  go_enter Try.func3, Try.ntmps3
  go_wp2_with (go_at_call 5; refine (guard5_yes _ _ _ (by omega)).mono ?_; rintro e w' ⟨rfl, rfl⟩)
  refine (safe_any _ _ (size_fits0 _ hs)).mono ?_
  rintro e w' ⟨rfl, rfl⟩
  go_wp2_with fail
  refine (safe_any _ _ (size_fits _ _ _ hs)).mono ?_
  rintro e w' ⟨rfl, rfl⟩
  go_wp2_with fail
  refine (safe_any _ _ (size_fits _ _ _ hs)).mono ?_
  rintro e w' ⟨rfl, rfl⟩
  go_wp2_with fail
  refine (safe_any _ _ size_fitsE).mono ?_
  rintro e w' ⟨rfl, rfl⟩
  go_wp2_with fail
  go_ret
  exact ⟨rfl, Grown.refl _⟩

theorem walk_tf_good (s : ByteArray) (k : Nat) (hs : s.size ≤ 1048576) (hk : k ≤ s.size) (w : World) (h1 : safeB s = false) (hl : safeB (s.extract 0 k) = true) (hr : safeB (s.extract k s.size) = false) (he : safeB ByteArray.empty = true) (hlt : k < s.size) (ho : safeB (s.extract k (k + 1)) = true) (hb : (s[k].toNat : Int) ≤ 126) :
    Calls Try.prog 3 #[.string s, .int .i64 k] w fun e w' => e = .returned (.bool true) ∧ Grown w w' := by
  have hd : decide ((k : Int) < 0) = false := decide_eq_false (by omega)
  go_enter Try.func3, Try.ntmps3
  go_wp2_with (go_at_call 5; refine (guard5_yes _ _ _ (by omega)).mono ?_; rintro e w' ⟨rfl, rfl⟩)
  refine (safe_any _ _ (size_fits0 _ hs)).mono ?_
  rintro e w' ⟨rfl, rfl⟩
  go_wp2_with fail
  refine (safe_any _ _ (size_fits _ _ _ hs)).mono ?_
  rintro e w' ⟨rfl, rfl⟩
  go_wp2_with fail
  refine (safe_any _ _ (size_fits _ _ _ hs)).mono ?_
  rintro e w' ⟨rfl, rfl⟩
  go_wp2_with fail
  refine (safe_any _ _ size_fitsE).mono ?_
  rintro e w' ⟨rfl, rfl⟩
  go_wp2_with fail
  refine (safe_any _ _ (size_fits _ _ _ hs)).mono ?_
  rintro e w' ⟨rfl, rfl⟩
  go_wp2_with fail
  go_ret
  exact ⟨rfl, Grown.refl _⟩

theorem walk_tf_bad (s : ByteArray) (k : Nat) (hs : s.size ≤ 1048576) (hk : k ≤ s.size) (w : World) (h1 : safeB s = false) (hl : safeB (s.extract 0 k) = true) (hr : safeB (s.extract k s.size) = false) (he : safeB ByteArray.empty = true) (hlt : k < s.size) (ho : safeB (s.extract k (k + 1)) = false) (hb : ¬ (s[k].toNat : Int) ≤ 126) :
    Calls Try.prog 3 #[.string s, .int .i64 k] w fun e w' => e = .returned (.bool true) ∧ Grown w w' := by
  have hd : decide ((k : Int) < 0) = false := decide_eq_false (by omega)
  go_enter Try.func3, Try.ntmps3
  go_wp2_with (go_at_call 5; refine (guard5_yes _ _ _ (by omega)).mono ?_; rintro e w' ⟨rfl, rfl⟩)
  refine (safe_any _ _ (size_fits0 _ hs)).mono ?_
  rintro e w' ⟨rfl, rfl⟩
  go_wp2_with fail
  refine (safe_any _ _ (size_fits _ _ _ hs)).mono ?_
  rintro e w' ⟨rfl, rfl⟩
  go_wp2_with fail
  refine (safe_any _ _ (size_fits _ _ _ hs)).mono ?_
  rintro e w' ⟨rfl, rfl⟩
  go_wp2_with fail
  refine (safe_any _ _ size_fitsE).mono ?_
  rintro e w' ⟨rfl, rfl⟩
  go_wp2_with fail
  refine (safe_any _ _ (size_fits _ _ _ hs)).mono ?_
  rintro e w' ⟨rfl, rfl⟩
  go_wp2_with fail
  go_ret
  exact ⟨rfl, Grown.refl _⟩

theorem walk_ft_end (s : ByteArray) (k : Nat) (hs : s.size ≤ 1048576) (hk : k ≤ s.size) (w : World) (h1 : safeB s = false) (hl : safeB (s.extract 0 k) = false) (hr : safeB (s.extract k s.size) = true) (he : safeB ByteArray.empty = true) (hlt : ¬ k < s.size) :
    Calls Try.prog 3 #[.string s, .int .i64 k] w fun e w' => e = .returned (.bool true) ∧ Grown w w' := by
  have hd : decide ((k : Int) < 0) = false := decide_eq_false (by omega)
  go_enter Try.func3, Try.ntmps3
  go_wp2_with (go_at_call 5; refine (guard5_yes _ _ _ (by omega)).mono ?_; rintro e w' ⟨rfl, rfl⟩)
  refine (safe_any _ _ (size_fits0 _ hs)).mono ?_
  rintro e w' ⟨rfl, rfl⟩
  go_wp2_with fail
  refine (safe_any _ _ (size_fits _ _ _ hs)).mono ?_
  rintro e w' ⟨rfl, rfl⟩
  go_wp2_with fail
  refine (safe_any _ _ (size_fits _ _ _ hs)).mono ?_
  rintro e w' ⟨rfl, rfl⟩
  go_wp2_with fail
  refine (safe_any _ _ size_fitsE).mono ?_
  rintro e w' ⟨rfl, rfl⟩
  go_wp2_with fail
  go_ret
  exact ⟨rfl, Grown.refl _⟩

theorem walk_ft_good (s : ByteArray) (k : Nat) (hs : s.size ≤ 1048576) (hk : k ≤ s.size) (w : World) (h1 : safeB s = false) (hl : safeB (s.extract 0 k) = false) (hr : safeB (s.extract k s.size) = true) (he : safeB ByteArray.empty = true) (hlt : k < s.size) (ho : safeB (s.extract k (k + 1)) = true) (hb : (s[k].toNat : Int) ≤ 126) :
    Calls Try.prog 3 #[.string s, .int .i64 k] w fun e w' => e = .returned (.bool true) ∧ Grown w w' := by
  have hd : decide ((k : Int) < 0) = false := decide_eq_false (by omega)
  go_enter Try.func3, Try.ntmps3
  go_wp2_with (go_at_call 5; refine (guard5_yes _ _ _ (by omega)).mono ?_; rintro e w' ⟨rfl, rfl⟩)
  refine (safe_any _ _ (size_fits0 _ hs)).mono ?_
  rintro e w' ⟨rfl, rfl⟩
  go_wp2_with fail
  refine (safe_any _ _ (size_fits _ _ _ hs)).mono ?_
  rintro e w' ⟨rfl, rfl⟩
  go_wp2_with fail
  refine (safe_any _ _ (size_fits _ _ _ hs)).mono ?_
  rintro e w' ⟨rfl, rfl⟩
  go_wp2_with fail
  refine (safe_any _ _ size_fitsE).mono ?_
  rintro e w' ⟨rfl, rfl⟩
  go_wp2_with fail
  refine (safe_any _ _ (size_fits _ _ _ hs)).mono ?_
  rintro e w' ⟨rfl, rfl⟩
  go_wp2_with fail
  go_ret
  exact ⟨rfl, Grown.refl _⟩

theorem walk_ft_bad (s : ByteArray) (k : Nat) (hs : s.size ≤ 1048576) (hk : k ≤ s.size) (w : World) (h1 : safeB s = false) (hl : safeB (s.extract 0 k) = false) (hr : safeB (s.extract k s.size) = true) (he : safeB ByteArray.empty = true) (hlt : k < s.size) (ho : safeB (s.extract k (k + 1)) = false) (hb : ¬ (s[k].toNat : Int) ≤ 126) :
    Calls Try.prog 3 #[.string s, .int .i64 k] w fun e w' => e = .returned (.bool true) ∧ Grown w w' := by
  have hd : decide ((k : Int) < 0) = false := decide_eq_false (by omega)
  go_enter Try.func3, Try.ntmps3
  go_wp2_with (go_at_call 5; refine (guard5_yes _ _ _ (by omega)).mono ?_; rintro e w' ⟨rfl, rfl⟩)
  refine (safe_any _ _ (size_fits0 _ hs)).mono ?_
  rintro e w' ⟨rfl, rfl⟩
  go_wp2_with fail
  refine (safe_any _ _ (size_fits _ _ _ hs)).mono ?_
  rintro e w' ⟨rfl, rfl⟩
  go_wp2_with fail
  refine (safe_any _ _ (size_fits _ _ _ hs)).mono ?_
  rintro e w' ⟨rfl, rfl⟩
  go_wp2_with fail
  refine (safe_any _ _ size_fitsE).mono ?_
  rintro e w' ⟨rfl, rfl⟩
  go_wp2_with fail
  refine (safe_any _ _ (size_fits _ _ _ hs)).mono ?_
  rintro e w' ⟨rfl, rfl⟩
  go_wp2_with fail
  go_ret
  exact ⟨rfl, Grown.refl _⟩

theorem walk_ff_end (s : ByteArray) (k : Nat) (hs : s.size ≤ 1048576) (hk : k ≤ s.size) (w : World) (h1 : safeB s = false) (hl : safeB (s.extract 0 k) = false) (hr : safeB (s.extract k s.size) = false) (he : safeB ByteArray.empty = true) (hlt : ¬ k < s.size) :
    Calls Try.prog 3 #[.string s, .int .i64 k] w fun e w' => e = .returned (.bool true) ∧ Grown w w' := by
  have hd : decide ((k : Int) < 0) = false := decide_eq_false (by omega)
  go_enter Try.func3, Try.ntmps3
  go_wp2_with (go_at_call 5; refine (guard5_yes _ _ _ (by omega)).mono ?_; rintro e w' ⟨rfl, rfl⟩)
  refine (safe_any _ _ (size_fits0 _ hs)).mono ?_
  rintro e w' ⟨rfl, rfl⟩
  go_wp2_with fail
  refine (safe_any _ _ (size_fits _ _ _ hs)).mono ?_
  rintro e w' ⟨rfl, rfl⟩
  go_wp2_with fail
  refine (safe_any _ _ (size_fits _ _ _ hs)).mono ?_
  rintro e w' ⟨rfl, rfl⟩
  go_wp2_with fail
  refine (safe_any _ _ size_fitsE).mono ?_
  rintro e w' ⟨rfl, rfl⟩
  go_wp2_with fail
  go_ret
  exact ⟨rfl, Grown.refl _⟩

theorem walk_ff_good (s : ByteArray) (k : Nat) (hs : s.size ≤ 1048576) (hk : k ≤ s.size) (w : World) (h1 : safeB s = false) (hl : safeB (s.extract 0 k) = false) (hr : safeB (s.extract k s.size) = false) (he : safeB ByteArray.empty = true) (hlt : k < s.size) (ho : safeB (s.extract k (k + 1)) = true) (hb : (s[k].toNat : Int) ≤ 126) :
    Calls Try.prog 3 #[.string s, .int .i64 k] w fun e w' => e = .returned (.bool true) ∧ Grown w w' := by
  have hd : decide ((k : Int) < 0) = false := decide_eq_false (by omega)
  go_enter Try.func3, Try.ntmps3
  go_wp2_with (go_at_call 5; refine (guard5_yes _ _ _ (by omega)).mono ?_; rintro e w' ⟨rfl, rfl⟩)
  refine (safe_any _ _ (size_fits0 _ hs)).mono ?_
  rintro e w' ⟨rfl, rfl⟩
  go_wp2_with fail
  refine (safe_any _ _ (size_fits _ _ _ hs)).mono ?_
  rintro e w' ⟨rfl, rfl⟩
  go_wp2_with fail
  refine (safe_any _ _ (size_fits _ _ _ hs)).mono ?_
  rintro e w' ⟨rfl, rfl⟩
  go_wp2_with fail
  refine (safe_any _ _ size_fitsE).mono ?_
  rintro e w' ⟨rfl, rfl⟩
  go_wp2_with fail
  refine (safe_any _ _ (size_fits _ _ _ hs)).mono ?_
  rintro e w' ⟨rfl, rfl⟩
  go_wp2_with fail
  go_ret
  exact ⟨rfl, Grown.refl _⟩

theorem walk_ff_bad (s : ByteArray) (k : Nat) (hs : s.size ≤ 1048576) (hk : k ≤ s.size) (w : World) (h1 : safeB s = false) (hl : safeB (s.extract 0 k) = false) (hr : safeB (s.extract k s.size) = false) (he : safeB ByteArray.empty = true) (hlt : k < s.size) (ho : safeB (s.extract k (k + 1)) = false) (hb : ¬ (s[k].toNat : Int) ≤ 126) :
    Calls Try.prog 3 #[.string s, .int .i64 k] w fun e w' => e = .returned (.bool true) ∧ Grown w w' := by
  have hd : decide ((k : Int) < 0) = false := decide_eq_false (by omega)
  go_enter Try.func3, Try.ntmps3
  go_wp2_with (go_at_call 5; refine (guard5_yes _ _ _ (by omega)).mono ?_; rintro e w' ⟨rfl, rfl⟩)
  refine (safe_any _ _ (size_fits0 _ hs)).mono ?_
  rintro e w' ⟨rfl, rfl⟩
  go_wp2_with fail
  refine (safe_any _ _ (size_fits _ _ _ hs)).mono ?_
  rintro e w' ⟨rfl, rfl⟩
  go_wp2_with fail
  refine (safe_any _ _ (size_fits _ _ _ hs)).mono ?_
  rintro e w' ⟨rfl, rfl⟩
  go_wp2_with fail
  refine (safe_any _ _ size_fitsE).mono ?_
  rintro e w' ⟨rfl, rfl⟩
  go_wp2_with fail
  refine (safe_any _ _ (size_fits _ _ _ hs)).mono ?_
  rintro e w' ⟨rfl, rfl⟩
  go_wp2_with fail
  go_ret
  exact ⟨rfl, Grown.refl _⟩

/-- The cut lies inside or at the end. -/
theorem walk_in (s : ByteArray) (k : Nat) (hs : s.size ≤ 1048576) (hk : k ≤ s.size) (w : World) :
    Calls Try.prog 3 #[.string s, .int .i64 k] w fun e w' => e = .returned (.bool true) ∧ Grown w w' := by
  have h1 := safeB_split s k
  cases hl : safeB (s.extract 0 k) <;> cases hr : safeB (s.extract k s.size) <;> (rw [hl, hr] at h1; simp only [Bool.and_true, Bool.and_false] at h1)
  all_goals by_cases hlt : k < s.size
  all_goals try have ho := safeB_one s k hlt
  all_goals try by_cases hb : (s[k].toNat : Int) ≤ 126
  all_goals try rw [decide_eq_true hb] at ho
  all_goals try rw [decide_eq_false hb] at ho
  · exact walk_ff_good s k hs hk w h1 hl hr empty_safe hlt ho hb
  · exact walk_ff_bad s k hs hk w h1 hl hr empty_safe hlt ho hb
  · exact walk_ff_end s k hs hk w h1 hl hr empty_safe hlt
  · exact walk_ft_good s k hs hk w h1 hl hr empty_safe hlt ho hb
  · exact walk_ft_bad s k hs hk w h1 hl hr empty_safe hlt ho hb
  · exact walk_ft_end s k hs hk w h1 hl hr empty_safe hlt
  · exact walk_tf_good s k hs hk w h1 hl hr empty_safe hlt ho hb
  · exact walk_tf_bad s k hs hk w h1 hl hr empty_safe hlt ho hb
  · exact walk_tf_end s k hs hk w h1 hl hr empty_safe hlt
  · exact walk_tt_good s k hs hk w h1 hl hr empty_safe hlt ho hb
  · exact walk_tt_bad s k hs hk w h1 hl hr empty_safe hlt ho hb
  · exact walk_tt_end s k hs hk w h1 hl hr empty_safe hlt

theorem walk (a0 : ByteArray) (a1 : Int) (w0 : a0.size ≤ maxLen) (w1 : (Lit.int .i64 a1).wf = true) (w : World) :
    Calls Try.prog 3 #[.string a0, .int .i64 a1] w fun e w' => e = .returned (.bool true) ∧ Grown w w' := by
  by_cases hsz : (a0.size : Int) ≤ 1048576
  · by_cases hk0 : a1 < 0
    · have hd : decide (a1 < 0) = true := decide_eq_true hk0
      go_enter Try.func3, Try.ntmps3
      go_wp2
      go_ret
      exact ⟨rfl, Grown.refl _⟩
    · by_cases hk1 : (a0.size : Int) < a1
      · have hd : decide (a1 < 0) = false := decide_eq_false hk0
        go_enter Try.func3, Try.ntmps3
        go_wp2
        go_ret
        exact ⟨rfl, Grown.refl _⟩
      · obtain ⟨k, rfl⟩ : ∃ k : Nat, a1 = (k : Int) := ⟨a1.toNat, by omega⟩
        exact walk_in a0 k (by omega) (by omega) w
  · go_enter Try.func3, Try.ntmps3
    go_wp2_with (go_at_call 5; refine (guard5_no _ _ _ hsz).mono ?_; rintro e w' ⟨rfl, rfl⟩)
    go_ret
    exact ⟨rfl, Grown.refl _⟩

/-! ### THE ROW's STEP: WRITTEN OUT: LEAVE IT -/
set_option maxRecDepth 100000 in
theorem lifted (os : Os) (started : os.Started) (H : Type) (enc : TypeId × Value → H) :
    ReturnsInHanded {} Try.checked os 3 .any (Rows.fnIsHeaderSafeSplitAtAnyCutSpec.pre6 enc Try.prog Try.f3 Rows.fnIsHeaderSafeSplitAtAnyCutRow.domain false) (Rows.fnIsHeaderSafeSplitAtAnyCutSpec.post enc Try.prog Try.f3 false true false false) := by
  refine returnsInHanded_of_change (C := Try.checked) own started (by kernel_rfl) Try.func3
    (ChangeSpec.witness6 (enc := enc) (C := Try.checked) false ⟨#[], #[.string ByteArray.empty, .int .i64 0], []⟩ 8 (by kernel_rfl) (by kernel_rfl) (by kernel_rfl) (by kernel_rfl)) ?_
  intro W base args ds gs before hval0 hW hcnd _
  have hval : ∀ (j : Nat) t v, Try.f3.params[j]? = some t → args[j]? = some v → Value.okWide Try.prog W .any base t v := hval0
  have hW' := hW
  obtain ⟨p, q, hA0, hV, rfl, hfz, hnd⟩ := hW
  have hA : DataW.TrodAll enc Try.prog W 0 (fun _ => true) true Try.f3.params.toList args.toList ds p := hA0
  rw [Try.params3] at hA hval
  obtain ⟨v0, vs0, d0, ds0, p0, q0, hargs, rfl, rfl, h0, r0⟩ := trodAll_cons hA
  obtain ⟨v1, vs1, d1, ds1, p1, q1, rfl, rfl, rfl, h1, r1⟩ := trodAll_cons r0
  obtain ⟨rfl, rfl, rfl⟩ := trodAll_nil r1
  obtain rfl : args = #[v0, v1] := by cases args; simp_all
  obtain ⟨rfl, rfl⟩ := trodVars_none hV
  obtain ⟨a0, rfl, rfl, rfl, w0⟩ := open_string Try.underlying9 (hval 0 9 v0 rfl rfl) h0
  obtain ⟨a1, rfl, rfl, rfl, w1⟩ := open_int Try.underlying3 (hval 1 3 v1 rfl rfl) h1
  clear hA0 hval0
  simp only [List.append_nil] at hW'
  refine (walk a0 a1 w0 w1 W).mono fun e W' ⟨he, hg⟩ => ?_
  subst he
  exact ⟨_, rfl, post_of_same (pa := []) (pv := []) hW' (fun _ _ _ => (trodAll_cons_mk (shut_bool Try.underlying4 _) trodAll_mk0)) (fun sp _ => (trodAll_cons_mk (shut_string Try.underlying9 w0) (trodAll_cons_mk (shut_int Try.underlying3 w1) trodAll_mk0))) (fun _ _ => rfl) rfl
    (hg.frame _) hg.2.1 (ok_one (by kernel_rfl) rfl (okWide_bool_mk Try.underlying4 _))⟩

theorem over : Rows.fnIsHeaderSafeSplitAtAnyCutRow.holds Try.pinned (OpenSpec.ofChange Rows.fnIsHeaderSafeSplitAtAnyCutSpec) :=
  OpenClaim.holds_of_wide 3 Try.f3 rfl rfl rfl rfl rfl rfl rfl ⟨rfl, rfl, rfl, rfl, rfl⟩ rfl rfl rfl rfl rfl (by kernel_rfl) Try.func3 (by kernel_rfl)
    (of_decide_eq_true (by kernel_rfl)) (by unfold Func.isWrapper; first | (rw [if_pos (by decide +kernel)]; kernel_rfl) | (rw [if_neg (by decide +kernel)]; exact ⟨rfl, rfl⟩))
    (fun os started H enc _ => lifted os started H enc)

/-- ████ THE STATEMENT ████ -/
theorem proved : Rows.FnIsHeaderSafeSplitAtAnyCutSaid :=
  over
end Go.Proofs.Qxb6627813a.fnIsHeaderSafeSplitAtAnyCut
