/-
  A PROOF OF 'Rows.FnIsHeaderSafeInsertOneByteSaid'. The frame (from 'THE ROW's STEP' on) was written by the guide's program; the walk is this seat's own:
  every call of IsHeaderSafe is taken by the contract 'safe_any'; the answers are fixed ahead of each walk (plain laws: Qxb6627813aSafe).
-/
import Derived.Test.Qxb6627813aRows
import Derived.WalkKit
import Derived.ProofKit
import Derived.OpenShut
import Derived.ShutString
import Derived.Test.Qxb6627813aSafeWalk
import Derived.WalkSpells
import Derived.Deep.QuietTactic
import Derived.BigQuiet
import Derived.Laws.IdiomStrings
namespace Go.Proofs.Qxb6627813a.fnIsHeaderSafeInsertOneByte
open Go.ChangeShapes Go.WideShapes Go.ChangeAt Go.RowKit
open Go.ChangeMaps (open_string shut_string)
set_option linter.unusedVariables false      -- a walk need not use every 'w<i>' (that an integer argument fits its kind)

theorem own : ownKnob Try.prog.godebug = none := by kernel_rfl

/-! ### STEP 1: THE WALK: the Go text returns true. 'Grown w w'': the world has at most new blocks (Derived/RowKit3.lean). Part the cases AHEAD of 'go_enter' where a test parts the walk; take each callee by a contract of your own. -/
theorem conv_one (b : UInt8) (w : World) : (convert 25 9 (.slice (some ⟨w.heap.size, 0, none⟩) 1 1)).run Try.prog (w.alloc (.cells #[.int .u8 b.toNat] 5)) = .ok (.string (oneB b)) (w.alloc (.cells #[.int .u8 b.toNat] 5)) := by
  have h := run_convert_bytes_back (P := Try.prog) (w.alloc (.cells #[.int .u8 b.toNat] 5)) 25 9 5 ⟨w.heap.size, 0, none⟩ 1 [b] Try.underlying25 Try.underlying5 Try.underlying9 (by
    intro j hj
    have : j = 0 := by simp at hj; omega
    subst this
    simp [Addr.add])
  exact h

theorem size_t (s : ByteArray) (k : Nat) (b : UInt8) (hs : s.size ≤ 1048576) : (s.extract 0 k ++ oneB b ++ s.extract k s.size).size ≤ maxLen := by
  unfold maxLen; simp [oneB_size]; omega
theorem size_one (b : UInt8) : (oneB b).size ≤ maxLen := by rw [oneB_size]; decide
theorem size_s (s : ByteArray) (hs : s.size ≤ 1048576) : s.size ≤ maxLen := by unfold maxLen; omega
theorem end_grown (w : World) (c : Array Value) (t : TypeId) (n : Nat) : Grown w ((w.alloc (.cells c t)).drewN n) := (Grown.refl w).alloc c t

theorem walk_bad (s : ByteArray) (k : Nat) (b : UInt8) (hs : s.size ≤ 1048576) (hk : k ≤ s.size) (w : World) (hb : ¬ (b.toNat : Int) ≤ 126) (ht : safeB (s.extract 0 k ++ oneB b ++ s.extract k s.size) = false) (h1 : safeB (oneB b) = false) :
    Calls Try.prog 4 #[.string s, .int .i64 k, .int .u8 b.toNat] w fun e w' => e = .returned (.bool true) ∧ Grown w w' := by
  have hd : decide ((k : Int) < 0) = false := decide_eq_false (by omega)
  have kc := conv_one b
  have k1 := oneB_size b
  go_enter Try.func4, Try.ntmps4
  go_wp2_with (go_at_call 7; refine (guard7_yes _ _ _ _ (by omega)).mono ?_; rintro e w' ⟨rfl, rfl⟩)
  go_quiet (fail)
  go_wp2_with fail
  refine (safe_any _ _ (size_t _ _ _ hs)).mono ?_
  rintro e w1 ⟨rfl, rfl⟩
  go_wp2_with fail
  refine (safe_any _ _ (size_one _)).mono ?_
  rintro e w1 ⟨rfl, rfl⟩
  go_wp2_with fail
  go_ret
  exact ⟨rfl, end_grown _ _ _ _⟩

theorem walk_good_t (s : ByteArray) (k : Nat) (b : UInt8) (hs : s.size ≤ 1048576) (hk : k ≤ s.size) (w : World) (hb : (b.toNat : Int) ≤ 126) (hss : safeB s = true) (ht : safeB (s.extract 0 k ++ oneB b ++ s.extract k s.size) = true) (h1 : safeB (oneB b) = true) :
    Calls Try.prog 4 #[.string s, .int .i64 k, .int .u8 b.toNat] w fun e w' => e = .returned (.bool true) ∧ Grown w w' := by
  have hd : decide ((k : Int) < 0) = false := decide_eq_false (by omega)
  have kc := conv_one b
  have k1 := oneB_size b
  go_enter Try.func4, Try.ntmps4
  go_wp2_with (go_at_call 7; refine (guard7_yes _ _ _ _ (by omega)).mono ?_; rintro e w' ⟨rfl, rfl⟩)
  go_quiet (fail)
  go_wp2_with fail
  refine (safe_any _ _ (size_t _ _ _ hs)).mono ?_
  rintro e w1 ⟨rfl, rfl⟩
  go_wp2_with fail
  refine (safe_any _ _ (size_one _)).mono ?_
  rintro e w1 ⟨rfl, rfl⟩
  go_wp2_with fail
  refine (safe_any _ _ (size_s _ hs)).mono ?_
  rintro e w1 ⟨rfl, rfl⟩
  go_wp2_with fail
  go_ret
  exact ⟨rfl, end_grown _ _ _ _⟩

theorem walk_good_f (s : ByteArray) (k : Nat) (b : UInt8) (hs : s.size ≤ 1048576) (hk : k ≤ s.size) (w : World) (hb : (b.toNat : Int) ≤ 126) (hss : safeB s = false) (ht : safeB (s.extract 0 k ++ oneB b ++ s.extract k s.size) = false) (h1 : safeB (oneB b) = true) :
    Calls Try.prog 4 #[.string s, .int .i64 k, .int .u8 b.toNat] w fun e w' => e = .returned (.bool true) ∧ Grown w w' := by
  have hd : decide ((k : Int) < 0) = false := decide_eq_false (by omega)
  have kc := conv_one b
  have k1 := oneB_size b
  go_enter Try.func4, Try.ntmps4
  go_wp2_with (go_at_call 7; refine (guard7_yes _ _ _ _ (by omega)).mono ?_; rintro e w' ⟨rfl, rfl⟩)
  go_quiet (fail)
  go_wp2_with fail
  refine (safe_any _ _ (size_t _ _ _ hs)).mono ?_
  rintro e w1 ⟨rfl, rfl⟩
  go_wp2_with fail
  refine (safe_any _ _ (size_one _)).mono ?_
  rintro e w1 ⟨rfl, rfl⟩
  go_wp2_with fail
  refine (safe_any _ _ (size_s _ hs)).mono ?_
  rintro e w1 ⟨rfl, rfl⟩
  go_wp2_with fail
  go_ret
  exact ⟨rfl, end_grown _ _ _ _⟩

theorem walk_in (s : ByteArray) (k : Nat) (b : UInt8) (hs : s.size ≤ 1048576) (hk : k ≤ s.size) (w : World) :
    Calls Try.prog 4 #[.string s, .int .i64 k, .int .u8 b.toNat] w fun e w' => e = .returned (.bool true) ∧ Grown w w' := by
  have ht := safeB_put s k b
  have h1 := safeB_oneB b
  by_cases hb : (b.toNat : Int) ≤ 126
  · rw [decide_eq_true hb] at ht h1
    cases hss : safeB s
    · rw [hss] at ht; exact walk_good_f s k b hs hk w hb hss ht h1
    · rw [hss] at ht; exact walk_good_t s k b hs hk w hb hss ht h1
  · rw [decide_eq_false hb] at ht h1
    exact walk_bad s k b hs hk w hb (by rw [ht]; simp) h1

theorem walk (a0 : ByteArray) (a1 : Int) (a2 : Int) (w0 : a0.size ≤ maxLen) (w1 : (Lit.int .i64 a1).wf = true) (w2 : (Lit.int .u8 a2).wf = true) (w : World) :
    Calls Try.prog 4 #[.string a0, .int .i64 a1, .int .u8 a2] w fun e w' => e = .returned (.bool true) ∧ Grown w w' := by
  by_cases hsz : (a0.size : Int) ≤ 1048576
  · by_cases hk0 : a1 < 0
    · have hd : decide (a1 < 0) = true := decide_eq_true hk0
      go_enter Try.func4, Try.ntmps4
      go_wp2
      go_ret
      exact ⟨rfl, Grown.refl _⟩
    · by_cases hk1 : (a0.size : Int) < a1
      · have hd : decide (a1 < 0) = false := decide_eq_false hk0
        go_enter Try.func4, Try.ntmps4
        go_wp2
        go_ret
        exact ⟨rfl, Grown.refl _⟩
      · obtain ⟨k, rfl⟩ : ∃ k : Nat, a1 = (k : Int) := ⟨a1.toNat, by omega⟩
        obtain ⟨b, rfl⟩ : ∃ b : UInt8, a2 = (b.toNat : Int) := by
          have hb := bounds_u8 w2
          refine ⟨UInt8.ofNat a2.toNat, ?_⟩
          simp; omega
        exact walk_in a0 k b (by omega) (by omega) w
  · go_enter Try.func4, Try.ntmps4
    go_wp2_with (go_at_call 7; refine (guard7_no _ _ _ _ hsz).mono ?_; rintro e w' ⟨rfl, rfl⟩)
    go_ret
    exact ⟨rfl, Grown.refl _⟩

/-! ### THE ROW's STEP: WRITTEN OUT: LEAVE IT -/
set_option maxRecDepth 100000 in
theorem lifted (os : Os) (started : os.Started) (H : Type) (enc : TypeId × Value → H) :
    ReturnsInHanded {} Try.checked os 4 .any (Rows.fnIsHeaderSafeInsertOneByteSpec.pre6 enc Try.prog Try.f4 Rows.fnIsHeaderSafeInsertOneByteRow.domain false) (Rows.fnIsHeaderSafeInsertOneByteSpec.post enc Try.prog Try.f4 false true false false) := by
  refine returnsInHanded_of_change (C := Try.checked) own started (by kernel_rfl) Try.func4
    (ChangeSpec.witness6 (enc := enc) (C := Try.checked) false ⟨#[], #[.string ByteArray.empty, .int .i64 0, .int .u8 0], []⟩ 8 (by kernel_rfl) (by kernel_rfl) (by kernel_rfl) (by kernel_rfl)) ?_
  intro W base args ds gs before hval0 hW hcnd _
  have hval : ∀ (j : Nat) t v, Try.f4.params[j]? = some t → args[j]? = some v → Value.okWide Try.prog W .any base t v := hval0
  have hW' := hW
  obtain ⟨p, q, hA0, hV, rfl, hfz, hnd⟩ := hW
  have hA : DataW.TrodAll enc Try.prog W 0 (fun _ => true) true Try.f4.params.toList args.toList ds p := hA0
  rw [Try.params4] at hA hval
  obtain ⟨v0, vs0, d0, ds0, p0, q0, hargs, rfl, rfl, h0, r0⟩ := trodAll_cons hA
  obtain ⟨v1, vs1, d1, ds1, p1, q1, rfl, rfl, rfl, h1, r1⟩ := trodAll_cons r0
  obtain ⟨v2, vs2, d2, ds2, p2, q2, rfl, rfl, rfl, h2, r2⟩ := trodAll_cons r1
  obtain ⟨rfl, rfl, rfl⟩ := trodAll_nil r2
  obtain rfl : args = #[v0, v1, v2] := by cases args; simp_all
  obtain ⟨rfl, rfl⟩ := trodVars_none hV
  obtain ⟨a0, rfl, rfl, rfl, w0⟩ := open_string Try.underlying9 (hval 0 9 v0 rfl rfl) h0
  obtain ⟨a1, rfl, rfl, rfl, w1⟩ := open_int Try.underlying3 (hval 1 3 v1 rfl rfl) h1
  obtain ⟨a2, rfl, rfl, rfl, w2⟩ := open_int Try.underlying5 (hval 2 5 v2 rfl rfl) h2
  clear hA0 hval0
  simp only [List.append_nil] at hW'
  refine (walk a0 a1 a2 w0 w1 w2 W).mono fun e W' ⟨he, hg⟩ => ?_
  subst he
  exact ⟨_, rfl, post_of_same (pa := []) (pv := []) hW' (fun _ _ _ => (trodAll_cons_mk (shut_bool Try.underlying4 _) trodAll_mk0)) (fun sp _ => (trodAll_cons_mk (shut_string Try.underlying9 w0) (trodAll_cons_mk (shut_int Try.underlying3 w1) (trodAll_cons_mk (shut_int Try.underlying5 w2) trodAll_mk0)))) (fun _ _ => rfl) rfl
    (hg.frame _) hg.2.1 (ok_one (by kernel_rfl) rfl (okWide_bool_mk Try.underlying4 _))⟩

theorem over : Rows.fnIsHeaderSafeInsertOneByteRow.holds Try.pinned (OpenSpec.ofChange Rows.fnIsHeaderSafeInsertOneByteSpec) :=
  OpenClaim.holds_of_wide 4 Try.f4 rfl rfl rfl rfl rfl rfl rfl ⟨rfl, rfl, rfl, rfl, rfl⟩ rfl rfl rfl rfl rfl (by kernel_rfl) Try.func4 (by kernel_rfl)
    (of_decide_eq_true (by kernel_rfl)) (by unfold Func.isWrapper; first | (rw [if_pos (by decide +kernel)]; kernel_rfl) | (rw [if_neg (by decide +kernel)]; exact ⟨rfl, rfl⟩))
    (fun os started H enc _ => lifted os started H enc)

/-- ████ THE STATEMENT ████ -/
theorem proved : Rows.FnIsHeaderSafeInsertOneByteSaid :=
  over
end Go.Proofs.Qxb6627813a.fnIsHeaderSafeInsertOneByte
