/-
  THE CHARACTER CLASSES (functions 8, 9, 12, 13) of the seat b6628166a: each computes a plain test on a byte.
-/
import Derived.Test.Qxb6628166aRows
import Derived.WalkKit
import Derived.WalkSpells
import Derived.WalkLawsBesides
namespace Go.Proofs.Qxb6628166a
open Go.RowKit

theorem ret_bool {a b : Bool} (h : a = b) : Ending.returned (.bool a) = .returned (.bool b) := by rw [h]

/-- A hexadecimal digit of either case. -/
def hexI (c : Int) : Bool := decide ((48 ≤ c ∧ c ≤ 57) ∨ (97 ≤ c ∧ c ≤ 102) ∨ (65 ≤ c ∧ c ≤ 70))

set_option maxHeartbeats 400000 in
theorem isDigit_yes (c : Int) (w : World) (h1 : 48 ≤ c) (h2 : c ≤ 57) : Calls Try.prog 13 #[.int .u8 c] w fun e w' => e = .returned (.bool true) ∧ w' = w := by
  go_enter Try.func13, Try.ntmps13
  go_wp2
  go_ret
  exact ⟨rfl, rfl⟩

set_option maxHeartbeats 400000 in
theorem isDigit_no (c : Int) (w : World) (h : ¬ (48 ≤ c ∧ c ≤ 57)) : Calls Try.prog 13 #[.int .u8 c] w fun e w' => e = .returned (.bool false) ∧ w' = w := by
  by_cases h1 : 48 ≤ c
  · have h2 : ¬ c ≤ 57 := fun x => h ⟨h1, x⟩
    clear h
    go_enter Try.func13, Try.ntmps13
    go_wp2
    go_ret
    exact ⟨rfl, rfl⟩
  · clear h
    go_enter Try.func13, Try.ntmps13
    go_wp2
    go_ret
    exact ⟨rfl, rfl⟩

set_option maxHeartbeats 400000 in
theorem isHex_yes (c : Int) (w : World) (h : hexI c = true) : Calls Try.prog 12 #[.int .u8 c] w fun e w' => e = .returned (.bool true) ∧ w' = w := by
  rcases of_decide_eq_true h with ⟨h1, h2⟩ | ⟨h1, h2⟩ | ⟨h1, h2⟩
  all_goals clear h
  · go_enter Try.func12, Try.ntmps12
    go_wp2_with (go_at_call 13; refine (isDigit_yes _ _ h1 h2).mono ?_; rintro e w' ⟨rfl, rfl⟩)
    go_ret
    exact ⟨rfl, rfl⟩
  · go_enter Try.func12, Try.ntmps12
    go_wp2_with (go_at_call 13; refine (isDigit_no _ _ (by omega)).mono ?_; rintro e w' ⟨rfl, rfl⟩)
    go_ret
    exact ⟨rfl, rfl⟩
  · have h3 : ¬ 97 ≤ c := by omega
    go_enter Try.func12, Try.ntmps12
    go_wp2_with (go_at_call 13; refine (isDigit_no _ _ (by omega)).mono ?_; rintro e w' ⟨rfl, rfl⟩)
    go_ret
    exact ⟨rfl, rfl⟩

set_option maxHeartbeats 400000 in
theorem isHex_no (c : Int) (w : World) (h : hexI c = false) : Calls Try.prog 12 #[.int .u8 c] w fun e w' => e = .returned (.bool false) ∧ w' = w := by
  have h0 := of_decide_eq_false h
  have hd : ¬ (48 ≤ c ∧ c ≤ 57) := fun x => h0 (.inl x)
  by_cases h1 : 97 ≤ c
  · have h2 : ¬ c ≤ 102 := fun x => h0 (.inr (.inl ⟨h1, x⟩))
    have h3 : 65 ≤ c := by omega
    have h4 : ¬ c ≤ 70 := by omega
    have d2 := decide_eq_false h2
    have d4 := decide_eq_false h4
    clear h h0
    go_enter Try.func12, Try.ntmps12
    go_wp2_with (go_at_call 13; refine (isDigit_no _ _ hd).mono ?_; rintro e w' ⟨rfl, rfl⟩)
    go_ret
    exact ⟨rfl, rfl⟩
  · by_cases h3 : 65 ≤ c
    · have h4 : ¬ c ≤ 70 := fun x => h0 (.inr (.inr ⟨h3, x⟩))
      have d4 := decide_eq_false h4
      clear h h0
      go_enter Try.func12, Try.ntmps12
      go_wp2_with (go_at_call 13; refine (isDigit_no _ _ hd).mono ?_; rintro e w' ⟨rfl, rfl⟩)
      go_ret
      exact ⟨rfl, rfl⟩
    · clear h h0
      go_enter Try.func12, Try.ntmps12
      go_wp2_with (go_at_call 13; refine (isDigit_no _ _ hd).mono ?_; rintro e w' ⟨rfl, rfl⟩)
      go_ret
      exact ⟨rfl, rfl⟩

theorem isHex_any (c : Int) (w : World) : Calls Try.prog 12 #[.int .u8 c] w fun e w' => e = .returned (.bool (hexI c)) ∧ w' = w := by
  cases h : hexI c
  · exact isHex_no c w h
  · exact isHex_yes c w h

/-! ### one hexadecimal digit -/
set_option maxHeartbeats 400000 in
theorem nibble_any (v : Int) (up : Bool) (w : World) (h0 : 0 ≤ v) (h1 : v ≤ 15) : Calls Try.prog 8 #[.int .u8 v, .bool up] w fun e w' => (∃ x : Int, e = .returned (.int .u8 x) ∧ 0 ≤ x ∧ x ≤ 255 ∧ hexI x = true) ∧ w' = w := by
  by_cases hv : v < 10
  · go_enter Try.func8, Try.ntmps8
    go_wp2
    go_ret
    exact ⟨⟨48 + v, rfl, by omega, by omega, by unfold hexI; simp; omega⟩, rfl⟩
  · cases up
    · go_enter Try.func8, Try.ntmps8
      go_wp2
      go_ret
      exact ⟨⟨97 + v - 10, rfl, by omega, by omega, by unfold hexI; simp; omega⟩, rfl⟩
    · go_enter Try.func8, Try.ntmps8
      go_wp2
      go_ret
      exact ⟨⟨65 + v - 10, rfl, by omega, by omega, by unfold hexI; simp; omega⟩, rfl⟩

/-! ### the alphabet -/
def alpha : List Nat := [48, 49, 50, 51, 52, 53, 54, 55, 56, 57, 97, 98, 99, 100, 101, 102, 65, 66, 67, 68, 69, 70]
theorem alpha_hex (c : Int) : hexI c = true ↔ ∃ k : Nat, k < 22 ∧ ((alpha.getD k 0 : Nat) : Int) = c := by
  constructor
  · intro h
    rcases of_decide_eq_true h with ⟨h1, h2⟩ | ⟨h1, h2⟩ | ⟨h1, h2⟩
    · have : c = 48 ∨ c = 49 ∨ c = 50 ∨ c = 51 ∨ c = 52 ∨ c = 53 ∨ c = 54 ∨ c = 55 ∨ c = 56 ∨ c = 57 := by omega
      rcases this with h | h | h | h | h | h | h | h | h | h
      · exact ⟨0, by omega, h.symm⟩
      · exact ⟨1, by omega, h.symm⟩
      · exact ⟨2, by omega, h.symm⟩
      · exact ⟨3, by omega, h.symm⟩
      · exact ⟨4, by omega, h.symm⟩
      · exact ⟨5, by omega, h.symm⟩
      · exact ⟨6, by omega, h.symm⟩
      · exact ⟨7, by omega, h.symm⟩
      · exact ⟨8, by omega, h.symm⟩
      · exact ⟨9, by omega, h.symm⟩
    · have : c = 97 ∨ c = 98 ∨ c = 99 ∨ c = 100 ∨ c = 101 ∨ c = 102 := by omega
      rcases this with h | h | h | h | h | h
      · exact ⟨10, by omega, h.symm⟩
      · exact ⟨11, by omega, h.symm⟩
      · exact ⟨12, by omega, h.symm⟩
      · exact ⟨13, by omega, h.symm⟩
      · exact ⟨14, by omega, h.symm⟩
      · exact ⟨15, by omega, h.symm⟩
    · have : c = 65 ∨ c = 66 ∨ c = 67 ∨ c = 68 ∨ c = 69 ∨ c = 70 := by omega
      rcases this with h | h | h | h | h | h
      · exact ⟨16, by omega, h.symm⟩
      · exact ⟨17, by omega, h.symm⟩
      · exact ⟨18, by omega, h.symm⟩
      · exact ⟨19, by omega, h.symm⟩
      · exact ⟨20, by omega, h.symm⟩
      · exact ⟨21, by omega, h.symm⟩
  · rintro ⟨k, hk, rfl⟩
    have key : ∀ k : Fin 22, hexI ((alpha.getD k.val 0 : Nat) : Int) = true := by decide
    exact key ⟨k, hk⟩

theorem alpha_at (k : Nat) (hk : k < 22) (h : k < ({ data := #[48, 49, 50, 51, 52, 53, 54, 55, 56, 57, 97, 98, 99, 100, 101, 102, 65, 66, 67, 68, 69, 70] } : ByteArray).size) : (({ data := #[48, 49, 50, 51, 52, 53, 54, 55, 56, 57, 97, 98, 99, 100, 101, 102, 65, 66, 67, 68, 69, 70] } : ByteArray)[k]'h).toNat = alpha.getD k 0 := by
  have key : ∀ k : Fin 22, (({ data := #[48, 49, 50, 51, 52, 53, 54, 55, 56, 57, 97, 98, 99, 100, 101, 102, 65, 66, 67, 68, 69, 70] } : ByteArray)[k.val]'(by have := k.isLt; exact this)).toNat = alpha.getD k.val 0 := by decide
  exact key ⟨k, hk⟩

set_option maxHeartbeats 400000 in
theorem inHex_any (c : Int) (w : World) : Calls Try.prog 9 #[.int .u8 c] w fun e w' => e = .returned (.bool (hexI c)) ∧ w' = w := by
  go_enter Try.func9, Try.ntmps9
  go_wp2
  go_loop [3] (fun i => ∃ k : Nat, k ≤ 22 ∧ i = .int .i64 k ∧ Hid (∀ j, j < k → ((alpha.getD j 0 : Nat) : Int) ≠ c)) (fun i => 22 - (intOf i).toNat)
  case atStart => exact ⟨0, by omega, rfl, fun j hj => by omega⟩
  case round =>
    obtain ⟨k, hk, rfl, HN⟩ := hrel
    by_cases hlt : k < 22
    · have hsz : k < ({ data := #[48, 49, 50, 51, 52, 53, 54, 55, 56, 57, 97, 98, 99, 100, 101, 102, 65, 66, 67, 68, 69, 70] } : ByteArray).size := hlt
      have ha := alpha_at k hlt hsz
      have HA : Hid ((({ data := #[48, 49, 50, 51, 52, 53, 54, 55, 56, 57, 97, 98, 99, 100, 101, 102, 65, 66, 67, 68, 69, 70] } : ByteArray)[k]'hsz).toNat = alpha.getD k 0) := ha
      clear ha
      go_wp2
      · have ht := (by assumption : (((({ data := #[48, 49, 50, 51, 52, 53, 54, 55, 56, 57, 97, 98, 99, 100, 101, 102, 65, 66, 67, 68, 69, 70] } : ByteArray)[k]'hsz).toNat : Int) == c) = true)
        rw [HA.out] at ht
        go_ret
        exact ⟨ret_bool ((alpha_hex c).2 ⟨k, hlt, eq_of_beq ht⟩).symm, rfl⟩
      · have ht := (by assumption : (((({ data := #[48, 49, 50, 51, 52, 53, 54, 55, 56, 57, 97, 98, 99, 100, 101, 102, 65, 66, 67, 68, 69, 70] } : ByteArray)[k]'hsz).toNat : Int) == c) = false)
        rw [HA.out] at ht
        go_round
        case rel =>
          refine ⟨k + 1, by omega, by go_num, fun j hj => ?_⟩
          by_cases e : j = k
          · subst e; intro he; rw [he] at ht; simp at ht
          · exact HN.out j (by omega)
        case measure => simp [intOf]; omega
    · go_wp2
      go_ret
      refine ⟨ret_bool ?_, rfl⟩
      cases h : hexI c
      · rfl
      · obtain ⟨j, hj, he⟩ := (alpha_hex c).1 h
        exact absurd he (HN.out j (by omega))
end Go.Proofs.Qxb6628166a
