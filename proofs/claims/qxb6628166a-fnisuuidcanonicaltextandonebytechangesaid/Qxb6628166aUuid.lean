/-
  isUUID (function 10) AND ZZisUUID (6) at strings of 36 bytes: true just if every byte is of its place's kind.
-/
import Derived.Test.Qxb6628166aHex
namespace Go.Proofs.Qxb6628166a
open Go.RowKit

def dashAt (j : Nat) : Bool := j == 8 || j == 13 || j == 18 || j == 23
def okAt (j : Nat) (x : Int) : Bool := if dashAt j then x == 45 else hexI x
/-- Every byte is of its place's kind. -/
def AllOk (l : List UInt8) : Prop := ∀ (j : Nat) (h : j < l.length), okAt j (l[j].toNat : Int) = true

/-- What the call tells of s. -/
def Tells (s : ByteArray) (e : Ending) : Prop := ∃ r : Bool, e = .returned (.bool r) ∧ (r = true ↔ AllOk s.data.toList)
/-- The first k bytes are of their places' classes. -/
def OkTo (s : ByteArray) (k : Nat) : Prop := ∀ (j : Nat) (h : j < s.data.toList.length), j < k → okAt j (s.data.toList[j].toNat : Int) = true

theorem okTo_step {s : ByteArray} {k : Nat} (h : OkTo s k) (hk : k < s.size) (ho : okAt k (s[k].toNat : Int) = true) : OkTo s (k + 1) := by
  intro j hj hlt
  by_cases e : j = k
  · subst e; exact ho
  · exact h j hj (by omega)
theorem tells_no {s : ByteArray} {k : Nat} (hk : k < s.size) (ho : okAt k (s[k].toNat : Int) = false) : Tells s (.returned (.bool false)) := by
  refine ⟨false, rfl, ⟨fun h => (by cases h), fun h => ?_⟩⟩
  have := h k (by simpa using hk)
  rw [show s.data.toList[k]'(by simpa using hk) = s[k] from rfl, ho] at this
  exact this
theorem tells_yes {s : ByteArray} (h : OkTo s s.size) : Tells s (.returned (.bool true)) :=
  ⟨true, rfl, ⟨fun _ j hj => h j hj (by simpa using hj), fun _ => rfl⟩⟩

theorem ok_dash (k : Nat) (x : Int) (hk : dashAt k = true) (h : (x != 45) = false) : okAt k x = true := by
  unfold okAt; rw [if_pos hk]; simpa using h
theorem no_dash (k : Nat) (x : Int) (hk : dashAt k = true) (h : (x != 45) = true) : okAt k x = false := by
  unfold okAt; rw [if_pos hk]; simpa using h
theorem hex_at (k : Nat) (x : Int) (hk : dashAt k = false) : okAt k x = hexI x := by
  unfold okAt; rw [if_neg (by rw [hk]; simp)]

set_option maxHeartbeats 2000000 in
theorem isUUID_any (s : ByteArray) (w : World) (hs : s.size = 36) :
    Calls Try.prog 10 #[.string s] w fun e w' => Tells s e ∧ w' = w := by
  have HS : Hid (s.size = 36) := hs
  go_enter Try.func10, Try.ntmps10
  go_wp2
  go_loop [9] (fun i => ∃ k : Nat, k ≤ 36 ∧ i = .int .i64 k ∧ Hid (OkTo s k)) (fun i => 36 - (intOf i).toNat)
  case atStart => exact ⟨0, by omega, rfl, fun j _ hj => by omega⟩
  case round =>
    obtain ⟨k, hk, rfl, HN⟩ := hrel
    by_cases hlt : k < 36
    · have hks : k < s.size := by omega
      by_cases k8 : k = 8
      · subst k8
        go_wp2
        · have ht := (by assumption : ((s[8].toNat : Int) != 45) = true)
          go_ret
          exact ⟨tells_no hks (no_dash 8 _ rfl ht), rfl⟩
        · have ht := (by assumption : ((s[8].toNat : Int) != 45) = false)
          go_round
          case rel => exact ⟨9, by omega, rfl, okTo_step HN.out hks (ok_dash 8 _ rfl ht)⟩
          case measure => simp [intOf]
      by_cases k13 : k = 13
      · subst k13
        go_wp2
        · have ht := (by assumption : ((s[13].toNat : Int) != 45) = true)
          go_ret
          exact ⟨tells_no hks (no_dash 13 _ rfl ht), rfl⟩
        · have ht := (by assumption : ((s[13].toNat : Int) != 45) = false)
          go_round
          case rel => exact ⟨14, by omega, rfl, okTo_step HN.out hks (ok_dash 13 _ rfl ht)⟩
          case measure => simp [intOf]
      by_cases k18 : k = 18
      · subst k18
        go_wp2
        · have ht := (by assumption : ((s[18].toNat : Int) != 45) = true)
          go_ret
          exact ⟨tells_no hks (no_dash 18 _ rfl ht), rfl⟩
        · have ht := (by assumption : ((s[18].toNat : Int) != 45) = false)
          go_round
          case rel => exact ⟨19, by omega, rfl, okTo_step HN.out hks (ok_dash 18 _ rfl ht)⟩
          case measure => simp [intOf]
      by_cases k23 : k = 23
      · subst k23
        go_wp2
        · have ht := (by assumption : ((s[23].toNat : Int) != 45) = true)
          go_ret
          exact ⟨tells_no hks (no_dash 23 _ rfl ht), rfl⟩
        · have ht := (by assumption : ((s[23].toNat : Int) != 45) = false)
          go_round
          case rel => exact ⟨24, by omega, rfl, okTo_step HN.out hks (ok_dash 23 _ rfl ht)⟩
          case measure => simp [intOf]
      have b8 : ((k : Int) == 8) = false := by simp; omega
      have b13 : ((k : Int) == 13) = false := by simp; omega
      have b18 : ((k : Int) == 18) = false := by simp; omega
      have b23 : ((k : Int) == 23) = false := by simp; omega
      have hdk : dashAt k = false := by unfold dashAt; simp [k8, k13, k18, k23]
      have HX := hex_at k (s[k].toNat : Int) hdk
      have HXX : Hid (okAt k (s[k].toNat : Int) = hexI (s[k].toNat : Int)) := HX
      clear HX hdk k8 k13 k18 k23
      cases hh : hexI (s[k].toNat : Int)
      · rw [hh] at HXX
        go_wp2_with (go_at_call 12; refine (isHex_no _ _ hh).mono ?_; rintro e w' ⟨rfl, rfl⟩)
        go_ret
        exact ⟨tells_no hks HXX.out, rfl⟩
      · rw [hh] at HXX
        go_wp2_with (go_at_call 12; refine (isHex_yes _ _ hh).mono ?_; rintro e w' ⟨rfl, rfl⟩)
        go_round
        case rel => exact ⟨k + 1, by omega, by go_num, okTo_step HN.out hks HXX.out⟩
        case measure => simp [intOf]; omega
    · go_wp2
      go_ret
      exact ⟨tells_yes (by rw [HS.out]; rwa [show k = 36 by omega] at HN), rfl⟩

theorem zzUUID_any (s : ByteArray) (w : World) (hs : s.size = 36) :
    Calls Try.prog 6 #[.string s] w fun e w' => Tells s e ∧ w' = w := by
  go_enter Try.func6, Try.ntmps6
  go_wp2_with (go_at_call 10; refine (isUUID_any _ _ hs).mono ?_; rintro e w' ⟨⟨r, rfl, hr⟩, rfl⟩; have HR : Hid (r = true ↔ AllOk s.data.toList) := hr; clear hr)
  go_ret
  exact ⟨⟨r, rfl, HR.out⟩, rfl⟩

end Go.Proofs.Qxb6628166a
