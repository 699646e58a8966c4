/-
  THE ARGUMENT 'keys []string' AS IT CAME IN, AND THE TWO LENGTH GUARDS (functions 5, 13): each answers some bool and leaves the world as it was.
-/
import Derived.Test.Qxb6627852aRows
import Derived.WalkKit
import Derived.WalkSpells
import Derived.WalkLawsBesides
namespace Go.Proofs.Qxb6627852a
open Go.RowKit

def SomeBool (e : Ending) : Prop := ∃ r, e = .returned (.bool r)

/-- A slice of strings that came in: len keys ks; where there is one, its cells lie at block b from off on. -/
structure KeyAt (w : World) (ka : Option Addr) (len : Nat) (ks : List ByteArray) (b off : Nat) : Prop where
  hlen : ks.length = len
  at_ : 0 < len → ka = some ⟨b, off, none⟩
  lt : 0 < len → b < w.heap.size
  cell : ∀ (i : Nat) (h : i < ks.length), w.cell? ⟨b, off + i, none⟩ = some (.string ks[i])
  fits : ∀ s ∈ ks, s.size ≤ maxLen

theorem KeyAt.below {w w' : World} {B : Nat} {ka : Option Addr} {len : Nat} {ks : List ByteArray} {b off : Nat} (h : KeyAt w ka len ks b off) (hb : Below B w w') (hB : w.heap.size ≤ B) : KeyAt w' ka len ks b off :=
  ⟨h.hlen, h.at_, fun h0 => Nat.lt_of_lt_of_le (h.lt h0) hb.size, fun i hi => (hb.cell (p := ⟨b, off + i, none⟩) (Nat.lt_of_lt_of_le (h.lt (by have := h.hlen; omega)) hB)).trans (h.cell i hi), h.fits⟩

set_option maxHeartbeats 400000 in
theorem guard5 (w : World) (ka : Option Addr) (len cap : Nat) (ks : List ByteArray) (b off : Nat) (hk : KeyAt w ka len ks b off) :
    Calls Try.prog 5 #[.slice ka len cap] w fun e w' => SomeBool e ∧ w' = w := by
  have HK : Hid (KeyAt w ka len ks b off) := hk
  clear hk
  by_cases h1 : (1048576 : Int) < (len : Int)
  · go_enter Try.func5, Try.ntmps5
    go_wp2
    go_ret
    exact ⟨⟨_, rfl⟩, rfl⟩
  · go_enter Try.func5, Try.ntmps5
    go_wp2
    go_loop [3, 4] (fun z i => ∃ (k : Nat) (t : Int), k ≤ len ∧ i = .int .i64 k ∧ z = .int .i64 t ∧ 0 ≤ t ∧ t ≤ 1048576) (fun _ i => len - (intOf i).toNat)
    case atStart => exact ⟨0, len, Nat.zero_le _, rfl, rfl, by omega, by omega⟩
    case round =>
      obtain ⟨k, t, hkl, rfl, rfl, ht0, ht1⟩ := hrel
      by_cases hlt : k < len
      · have hks : k < ks.length := by rw [HK.out.hlen]; exact hlt
        have hc := HK.out.cell k hks
        obtain ⟨s, hs⟩ : ∃ s, s = ks[k] := ⟨_, rfl⟩
        rw [← hs] at hc
        clear hs
        obtain rfl := HK.out.at_ (by omega)
        by_cases h2 : (1048576 : Int) < (s.size : Int)
        · go_wp2
          go_ret
          exact ⟨⟨_, rfl⟩, rfl⟩
        · by_cases h3 : (1048576 : Int) < t + (s.size : Int)
          · go_wp2
            go_ret
            exact ⟨⟨_, rfl⟩, rfl⟩
          · go_wp2
            go_round
            case rel => exact ⟨k + 1, _, by omega, by go_num, rfl, by omega, by omega⟩
            case measure => simp [intOf]; omega
      · go_wp2
        go_ret
        exact ⟨⟨_, rfl⟩, rfl⟩

set_option maxHeartbeats 400000 in
theorem guard13 (w : World) (ka : Option Addr) (len cap : Nat) (ks : List ByteArray) (b off : Nat) (hk : KeyAt w ka len ks b off) :
    Calls Try.prog 13 #[.slice ka len cap] w fun e w' => SomeBool e ∧ w' = w := by
  have HK : Hid (KeyAt w ka len ks b off) := hk
  clear hk
  by_cases h1 : (1048576 : Int) < (len : Int)
  · go_enter Try.func13, Try.ntmps13
    go_wp2
    go_ret
    exact ⟨⟨_, rfl⟩, rfl⟩
  · go_enter Try.func13, Try.ntmps13
    go_wp2
    go_loop [3, 4] (fun z i => ∃ (k : Nat) (t : Int), k ≤ len ∧ i = .int .i64 k ∧ z = .int .i64 t ∧ 0 ≤ t ∧ t ≤ 1048576) (fun _ i => len - (intOf i).toNat)
    case atStart => exact ⟨0, len, Nat.zero_le _, rfl, rfl, by omega, by omega⟩
    case round =>
      obtain ⟨k, t, hkl, rfl, rfl, ht0, ht1⟩ := hrel
      by_cases hlt : k < len
      · have hks : k < ks.length := by rw [HK.out.hlen]; exact hlt
        have hc := HK.out.cell k hks
        obtain ⟨s, hs⟩ : ∃ s, s = ks[k] := ⟨_, rfl⟩
        rw [← hs] at hc
        clear hs
        obtain rfl := HK.out.at_ (by omega)
        by_cases h2 : (1048576 : Int) < (s.size : Int)
        · go_wp2
          go_ret
          exact ⟨⟨_, rfl⟩, rfl⟩
        · by_cases h3 : (1048576 : Int) < t + (s.size : Int)
          · go_wp2
            go_ret
            exact ⟨⟨_, rfl⟩, rfl⟩
          · go_wp2
            go_round
            case rel => exact ⟨k + 1, _, by omega, by go_num, rfl, by omega, by omega⟩
            case measure => simp [intOf]; omega
      · go_wp2
        go_ret
        exact ⟨⟨_, rfl⟩, rfl⟩

end Go.Proofs.Qxb6627852a
