/-
  zzZeroCount (function 5): the closed form computes the count of zero ports.
-/
import Derived.Test.Qxb6628242aRows
import Derived.Test.Qxb6628242aNum
import Derived.WalkKit
import Derived.WalkSpells
import Derived.WalkLawsBesides

namespace Go.Proofs.Qxb6628242a
open Go.RowKit

theorem ret_int {k : IntKind} {a b : Int} (h : a = b) : Ending.returned (.int k a) = .returned (.int k b) := by rw [h]

theorem and16 (y : Int) (h0 : 0 ≤ y) (h1 : y < 4294967296) : bits BinOp.and IntKind.u32 y 65535 = y % 65536 := by
  rw [u32_and y 65535 h0 h1 (by omega) (by omega)]
  have e : (65535 : Int).toNat = 2 ^ 16 - 1 := rfl
  rw [e, Nat.and_two_pow_sub_one_eq_mod]
  omega

theorem nform (s x : Int) : bits BinOp.and IntKind.u32 (x * ((2 - s * x) % 4294967296) % 4294967296) 65535 = newton s x := by
  rw [and16 _ (Int.emod_nonneg _ (by omega)) (Int.emod_lt_of_pos _ (by omega))]
  unfold newton
  rw [Int.emod_emod_of_dvd _ (by exact ⟨65536, by omega⟩)]
  rw [Int.mul_emod, Int.emod_emod_of_dvd _ (by exact ⟨65536, by omega⟩), ← Int.mul_emod]

theorem newton_range (s x : Int) : 0 ≤ newton s x ∧ newton s x ≤ 65535 := by unfold newton; omega

theorem pow_facts (k : Nat) (hk : k < 16) : (1 : Int) ≤ 2 ^ k ∧ (2 : Int) ^ k ≤ 32768 ∧ (2 : Int) ^ k * (65536 / 2 ^ k) = 65536 ∧ (1 : Int) ≤ 65536 / 2 ^ k ∧ (65536 : Int) / 2 ^ k ≤ 65536 := by
  have key : ∀ k : Fin 16, (1 : Int) ≤ 2 ^ k.val ∧ (2 : Int) ^ k.val ≤ 32768 ∧ (2 : Int) ^ k.val * (65536 / 2 ^ k.val) = 65536 ∧ (1 : Int) ≤ 65536 / 2 ^ k.val ∧ (65536 : Int) / 2 ^ k.val ≤ 65536 := by decide
  exact key ⟨k, hk⟩

theorem bit0 (s : Int) (h0 : 0 ≤ s) (h1 : s ≤ 65535) : bits BinOp.and IntKind.u16 s 1 = s % 2 := by
  rw [u16_and s 1 h0 (by omega) (by omega) (by omega)]
  have e : (1 : Int).toNat = 2 ^ 1 - 1 := rfl
  rw [e, Nat.and_two_pow_sub_one_eq_mod]
  omega

theorem div_range (a G : Int) (h0 : 0 ≤ a) (h1 : a ≤ 65535) (hG : 1 ≤ G) : 0 ≤ a / G ∧ a / G ≤ 65535 :=
  ⟨Int.ediv_nonneg h0 (by omega), by have := Int.ediv_le_self G h0; omega⟩

theorem next_pow (step : Int) (k : Nat) (h : (2 ^ k : Int) ∣ step) (hb : (step / 2 ^ k) % 2 = 0) : (2 ^ (k + 1) : Int) ∣ step := by
  obtain ⟨t, ht⟩ := h
  have hp : (2 : Int) ^ k ≠ 0 := by
    have : (0 : Int) < 2 ^ k := Int.pow_pos (by omega)
    omega
  rw [ht, Int.mul_ediv_cancel_left _ hp] at hb
  refine ⟨t / 2, ?_⟩
  rw [ht, Int.pow_succ, Int.mul_assoc]
  congr 1
  omega

/-- The closed form is the count. -/
theorem closed (next step : Int) (n : Nat) (neg G M s c x3 : Int) (hG : G * M = 65536) (hG1 : 1 ≤ G) (hM : 1 ≤ M) (hd : G ∣ step) (hs : step / G = s) (hodd : s % 2 = 1) (hneg : neg = (65536 - next) % 65536) (hdn : neg % G = 0) (hc : neg / G = c) (hx : x3 = inv3 s) :
    (zeros next step n : Int) = formC M (c * x3 % M) n := by
  have e1 : step = G * s := by rw [← hs]; exact (Int.mul_ediv_cancel' hd).symm
  have e2 : neg = G * c := by rw [← hc]; exact (Int.mul_ediv_cancel' (Int.dvd_of_emod_eq_zero hdn)).symm
  have e3 : (65536 : Int) ∣ neg + next := by rw [hneg]; omega
  have h := port_some next step neg G M s c x3 hG (by omega) e1 e2 e3 (by rw [hx]; exact inv3_ok s hodd)
  rw [zeros_cnt next step M (c * x3 % M) h n]
  exact cntMod_form M _ (by omega) (Int.emod_nonneg _ (by omega)) (Int.emod_lt_of_pos _ (by omega)) n

theorem closed_none (next step : Int) (n : Nat) (neg G M : Int) (hG : G * M = 65536) (hd : G ∣ step) (hneg : neg = (65536 - next) % 65536) (hdn : ¬ neg % G = 0) : (zeros next step n : Int) = 0 := by
  have e3 : (65536 : Int) ∣ neg + next := by rw [hneg]; omega
  rw [zeros_none next step (port_none next step neg G M hG hd e3 (fun h => hdn (Int.emod_eq_zero_of_dvd h)))]
  rfl

set_option maxHeartbeats 1000000 in
theorem zc_any (next step : Int) (n : Nat) (w : World) (h0 : 0 ≤ next) (h1 : next ≤ 65535) (h2 : 0 ≤ step) (h3 : step ≤ 65535) (hn : n ≤ 131072) :
    Calls Try.prog 5 #[.int .u16 next, .int .u16 step, .int .i64 n] w fun e w' => e = .returned (.int .i64 (zeros next step n)) ∧ w' = w := by
  by_cases hn0 : n = 0
  · subst hn0
    go_enter Try.func5, Try.ntmps5
    go_wp2
    go_ret
    exact ⟨rfl, rfl⟩
  have hd0 : decide ((n : Int) ≤ 0) = false := decide_eq_false (by omega)
  by_cases hs0 : step = 0
  · subst hs0
    have hz := zeros_step0 next h0 h1 n
    by_cases hx : next = 0
    · rw [if_pos hx] at hz
      subst hx
      have HZ : Hid ((zeros 0 0 n : Int) = (n : Int)) := hz
      clear hz
      go_enter Try.func5, Try.ntmps5
      go_wp2
      go_ret
      exact ⟨ret_int HZ.out.symm, rfl⟩
    · rw [if_neg hx] at hz
      have HZ : Hid ((zeros next 0 n : Int) = 0) := hz
      have hb : (next == 0) = false := by simpa using hx
      clear hz hx
      go_enter Try.func5, Try.ntmps5
      go_wp2
      go_ret
      exact ⟨ret_int HZ.out.symm, rfl⟩
  have hbs : (step == 0) = false := by simpa using hs0
  go_enter Try.func5, Try.ntmps5
  go_wp2
  go_loop [7] (fun t => ∃ k : Nat, k ≤ 16 ∧ t = .int .u64 k ∧ Hid ((2 ^ k : Int) ∣ step)) (fun t => 16 - (intOf t).toNat)
  case atStart => exact ⟨0, by omega, rfl, by unfold Hid; exact ⟨step, by simp⟩⟩
  case round =>
    obtain ⟨k, hk, rfl, HD⟩ := hrel
    by_cases hlt : k < 16
    · obtain ⟨g1, g2, g3, g4, g5⟩ := pow_facts k hlt
      have hsr := div_range step (2 ^ k) h2 h3 g1
      have hb0 := bit0 _ hsr.1 hsr.2
      cases hbit : (bits BinOp.and IntKind.u16 (step / 2 ^ k) 1 == 0)
      · have HOD : Hid (step / 2 ^ k % 2 = 1) := by
          rw [hb0] at hbit
          have : ¬ step / 2 ^ k % 2 = 0 := by simpa using hbit
          unfold Hid; omega
        clear hb0
        obtain ⟨G, hG⟩ : ∃ G : Int, (2 : Int) ^ k = G := ⟨_, rfl⟩
        rw [hG] at hbit g1 g2 g3 g4 g5 hsr HOD HD
        obtain ⟨neg, hneg⟩ : ∃ neg : Int, bits BinOp.and IntKind.u32 (65536 - next) 65535 = neg := ⟨_, rfl⟩
        have HNE : Hid (neg = (65536 - next) % 65536) := by rw [← hneg]; exact and16 _ (by omega) (by omega)
        have hneg1 : 0 ≤ neg := by rw [HNE.out]; omega
        have hneg2 : neg ≤ 65535 := by rw [HNE.out]; omega
        obtain ⟨M, hM⟩ : ∃ M : Int, 65536 / G = M := ⟨_, rfl⟩
        rw [hM] at g3 g4 g5
        have HGM : Hid (G * M = 65536) := g3
        clear g3
        have hGw : G % 4294967296 = G := by omega
        have hMw : IntKind.u64.wrap M = M := by rw [IntKind.wrap_u64]; omega
        obtain ⟨s, hs⟩ : ∃ s : Int, step / G = s := ⟨_, rfl⟩
        rw [hs] at hbit hsr HOD
        obtain ⟨hs1, hs2⟩ := hsr
        obtain ⟨c, hc⟩ : ∃ c : Int, neg / G = c := ⟨_, rfl⟩
        have hcr := div_range neg G hneg1 hneg2 g1
        rw [hc] at hcr
        obtain ⟨hc1, hc2⟩ := hcr
        obtain ⟨x1, hx1⟩ : ∃ x1 : Int, bits BinOp.and IntKind.u32 (s * ((2 - s * s) % 4294967296) % 4294967296) 65535 = x1 := ⟨_, rfl⟩
        have r1 := newton_range s s
        have HX1 : Hid (x1 = newton s s) := by rw [← hx1]; exact nform s s
        rw [← HX1.out] at r1
        obtain ⟨x2, hx2⟩ : ∃ x2 : Int, bits BinOp.and IntKind.u32 (x1 * ((2 - s * x1) % 4294967296) % 4294967296) 65535 = x2 := ⟨_, rfl⟩
        have r2 := newton_range s x1
        have HX2 : Hid (x2 = newton s x1) := by rw [← hx2]; exact nform s x1
        rw [← HX2.out] at r2
        obtain ⟨x3, hx3⟩ : ∃ x3 : Int, bits BinOp.and IntKind.u32 (x2 * ((2 - s * x2) % 4294967296) % 4294967296) 65535 = x3 := ⟨_, rfl⟩
        have r3 := newton_range s x2
        have HX3 : Hid (x3 = newton s x2) := by rw [← hx3]; exact nform s x2
        rw [← HX3.out] at r3
        have HX : Hid (x3 = inv3 s) := by unfold inv3; rw [← HX1.out, ← HX2.out]; exact HX3.out
        clear HX1 HX2 HX3
        obtain ⟨y, hy⟩ : ∃ y : Int, c * x3 = y := ⟨_, rfl⟩
        have hy1 : 0 ≤ y := by rw [← hy]; exact Int.mul_nonneg hc1 r3.1
        have hy2 : y ≤ 4294836225 := by
          rw [← hy]
          have := Int.mul_le_mul hc2 r3.2 r3.1 (by omega : (0 : Int) ≤ 65535)
          omega
        obtain ⟨i0, hi0⟩ : ∃ i0 : Int, y % M = i0 := ⟨_, rfl⟩
        have hi1 : 0 ≤ i0 := by rw [← hi0]; exact Int.emod_nonneg _ (by omega)
        have hi2 : i0 < M := by rw [← hi0]; exact Int.emod_lt_of_pos _ (by omega)
        by_cases hdv : neg % G = 0
        · have HC := closed next step n neg G M s c x3 HGM.out g1 g4 HD.out hs HOD.out HNE.out hdv hc HX.out
          rw [hy, hi0] at HC
          unfold formC at HC
          have HCC : Hid ((zeros next step n : Int) = if (n : Int) ≤ i0 then 0 else ((n : Int) - 1 - i0) / M + 1) := HC
          have hdb : (neg % G != 0) = false := by simpa using hdv
          clear hdv HC
          by_cases hni : (n : Int) ≤ i0
          · rw [if_pos hni] at HCC
            go_wp2
            go_ret
            exact ⟨ret_int HCC.out.symm, rfl⟩
          · rw [if_neg hni] at HCC
            obtain ⟨Q, hQ⟩ : ∃ Q : Int, ((n : Int) - 1 - i0) / M = Q := ⟨_, rfl⟩
            rw [hQ] at HCC
            have hQ1 : 0 ≤ Q := by rw [← hQ]; exact Int.ediv_nonneg (by omega) (by omega)
            have hQ2 : Q ≤ 131072 := by rw [← hQ]; have := Int.ediv_le_self M (by omega : 0 ≤ (n : Int) - 1 - i0); omega
            go_wp2
            go_ret
            exact ⟨ret_int HCC.out.symm, rfl⟩
        · have HC : Hid ((zeros next step n : Int) = 0) := closed_none next step n neg G M HGM.out HD.out HNE.out hdv
          have hdb : (neg % G != 0) = true := by simpa using hdv
          clear hdv
          go_wp2
          go_ret
          exact ⟨ret_int HC.out.symm, rfl⟩
      · have HE : Hid (step / 2 ^ k % 2 = 0) := by
          rw [hb0] at hbit
          unfold Hid; simpa using hbit
        clear hb0
        go_wp2
        go_round
        case rel => exact ⟨k + 1, by omega, by go_num, next_pow step k HD.out HE.out⟩
        case measure => simp [intOf]; omega
    · exfalso
      have hk16 : k = 16 := by omega
      subst hk16
      obtain ⟨t, ht⟩ := HD.out
      have e16 : (2 : Int) ^ 16 = 65536 := rfl
      rw [e16] at ht
      omega
end Go.Proofs.Qxb6628242a
