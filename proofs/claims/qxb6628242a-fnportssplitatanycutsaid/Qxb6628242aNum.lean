/-
  THE PLAIN LAW: no Go in sight. The ports of a prediction as a list; their number; the count of zero ports in closed form.
-/
namespace Go.Proofs.Qxb6628242a

/-! ### the ports -/
def port (next step : Int) (i : Nat) : Int := (next + (i : Int) * step) % 65536
def ports (next step : Int) : Nat → List Int
  | 0 => []
  | n + 1 => ports next step n ++ if port next step n = 0 then [] else [port next step n]
/-- How many of the first n are zero. -/
def zeros (next step : Int) : Nat → Nat
  | 0 => 0
  | n + 1 => zeros next step n + if port next step n = 0 then 1 else 0

theorem port_range (next step : Int) (i : Nat) : 0 ≤ port next step i ∧ port next step i < 65536 := by
  unfold port; omega

theorem port_add (next step : Int) (a j : Nat) : port (port next step a) step j = port next step (a + j) := by
  unfold port
  rw [Int.emod_add_emod]
  congr 1
  rw [Int.natCast_add, Int.add_mul]
  omega

theorem ports_add (next step : Int) (a : Nat) : ∀ b : Nat, ports next step (a + b) = ports next step a ++ ports (port next step a) step b
  | 0 => by simp [ports]
  | b + 1 => by
    rw [← Nat.add_assoc, ports, ports, ports_add next step a b, port_add, List.append_assoc]

theorem ports_len (next step : Int) : ∀ n : Nat, (ports next step n).length + zeros next step n = n
  | 0 => rfl
  | n + 1 => by
    have ih := ports_len next step n
    rw [ports, zeros, List.length_append]
    split <;> simp <;> omega

theorem ports_le (next step : Int) (n : Nat) : (ports next step n).length ≤ n := by
  have := ports_len next step n; omega

theorem ports_wf (next step : Int) : ∀ n : Nat, ∀ x ∈ ports next step n, 0 ≤ x ∧ x ≤ 65535
  | 0, x, h => by simp [ports] at h
  | n + 1, x, h => by
    rw [ports] at h
    rcases List.mem_append.1 h with h | h
    · exact ports_wf next step n x h
    · split at h
      · simp at h
      · have := port_range next step n
        simp at h; subst h; omega

/-! ### counting a residue -/
def cntMod (m i0 : Int) : Nat → Nat
  | 0 => 0
  | n + 1 => cntMod m i0 n + if (n : Int) % m = i0 then 1 else 0

theorem succ_div (a m : Int) (hm : 0 < m) : (a + 1) / m = a / m + if (a + 1) % m = 0 then 1 else 0 := by
  have h1 := Int.emod_add_mul_ediv a m
  have h2 := Int.emod_nonneg a (by omega : m ≠ 0)
  have h3 := Int.emod_lt_of_pos a hm
  by_cases h : a % m + 1 = m
  · have e : a + 1 = m * (a / m + 1) := by rw [Int.mul_add, Int.mul_one]; omega
    rw [if_pos (by rw [e, Int.mul_emod_right]), e, Int.mul_ediv_cancel_left _ (by omega)]
  · have e : a + 1 = (a % m + 1) + m * (a / m) := by omega
    have e1 : (a + 1) % m = a % m + 1 := by
      rw [e, Int.add_mul_emod_self_left, Int.emod_eq_of_lt (by omega) (by omega)]
    rw [if_neg (by omega)]
    have e2 : (a + 1) / m = (a % m + 1) / m + a / m := by
      conv => lhs; rw [e]
      exact Int.add_mul_ediv_left _ _ (by omega)
    rw [e2, Int.ediv_eq_zero_of_lt (by omega) (by omega)]
    omega

/-- The closed form. -/
def formC (m i0 n : Int) : Int := if n ≤ i0 then 0 else (n - 1 - i0) / m + 1

theorem res_iff (m i0 n : Int) (h0 : 0 ≤ i0) (h1 : i0 < m) : n % m = i0 ↔ (n - i0) % m = 0 := by
  have : n % m = i0 % m ↔ (n - i0) % m = 0 := Int.emod_eq_emod_iff_emod_sub_eq_zero
  rwa [Int.emod_eq_of_lt h0 h1] at this

theorem cntMod_form (m i0 : Int) (hm : 0 < m) (h0 : 0 ≤ i0) (h1 : i0 < m) : ∀ n : Nat, (cntMod m i0 n : Int) = formC m i0 n
  | 0 => by
    unfold formC cntMod
    rw [if_pos (by simpa using h0)]; rfl
  | n + 1 => by
    have ih := cntMod_form m i0 hm h0 h1 n
    rw [cntMod, Int.natCast_add, ih]
    unfold formC
    have hr := res_iff m i0 n h0 h1
    by_cases c1 : (n : Int) < i0
    · have e : ¬ (n : Int) % m = i0 := by rw [Int.emod_eq_of_lt (by omega) (by omega)]; omega
      rw [if_pos (by omega), if_neg e, if_pos (by omega)]; rfl
    · by_cases c2 : (n : Int) = i0
      · have e : (n : Int) % m = i0 := by rw [Int.emod_eq_of_lt (by omega) (by omega)]; exact c2
        rw [if_pos (by omega), if_pos e, if_neg (by omega)]
        rw [show ((n + 1 : Nat) : Int) - 1 - i0 = 0 by omega, Int.zero_ediv]; rfl
      · rw [if_neg (show ¬ (n : Int) ≤ i0 by omega), if_neg (show ¬ ((n + 1 : Nat) : Int) ≤ i0 by omega)]
        have hs := succ_div ((n : Int) - 1 - i0) m hm
        rw [show (n : Int) - 1 - i0 + 1 = (n : Int) - i0 by omega] at hs
        rw [show ((n + 1 : Nat) : Int) - 1 - i0 = (n : Int) - i0 by omega, hs]
        by_cases c3 : (n : Int) % m = i0
        · rw [if_pos c3, if_pos (hr.1 c3)]; omega
        · rw [if_neg c3, if_neg (fun h => c3 (hr.2 h))]; omega

/-! ### the congruence -/
/-- Newton's step towards the inverse of s. -/
def newton (s x : Int) : Int := (x * (2 - s * x)) % 65536

theorem newton_id (s x : Int) : 1 - s * (x * (2 - s * x)) = (1 - s * x) * (1 - s * x) := by
  rw [← Int.mul_assoc]
  generalize s * x = y
  have e1 : y * (2 - y) = y * 2 - y * y := Int.mul_sub _ _ _
  have e2 : (1 - y) * (1 - y) = (1 - y) * 1 - (1 - y) * y := Int.mul_sub _ _ _
  have e3 : (1 - y) * y = 1 * y - y * y := Int.sub_mul _ _ _
  omega

/-- The error is squared. -/
theorem newton_err (s x d dd : Int) (h : d ∣ 1 - s * x) (hdd : dd ∣ d * d) (hdm : dd ∣ 65536) : dd ∣ 1 - s * newton s x := by
  have h1 : dd ∣ 1 - s * (x * (2 - s * x)) := by
    rw [newton_id]
    exact Int.dvd_trans hdd (Int.mul_dvd_mul h h)
  have h2 : (65536 : Int) ∣ x * (2 - s * x) - newton s x := by
    unfold newton
    exact Int.dvd_self_sub_emod
  have h3 : dd ∣ s * (x * (2 - s * x) - newton s x) := Int.dvd_mul_of_dvd_right (Int.dvd_trans hdm h2)
  have e : 1 - s * newton s x = (1 - s * (x * (2 - s * x))) + s * (x * (2 - s * x) - newton s x) := by
    have := Int.mul_sub s (x * (2 - s * x)) (newton s x)
    omega
  rw [e]
  exact Int.dvd_add h1 h3

theorem odd_sq (s : Int) (h : s % 2 = 1) : (8 : Int) ∣ 1 - s * s := by
  obtain ⟨t, ht⟩ : ∃ t, s = 2 * t + 1 := ⟨s / 2, by omega⟩
  have h2 : ∃ u, t * (t + 1) = 2 * u := by
    rcases (by omega : t % 2 = 0 ∨ t % 2 = 1) with h | h
    · refine ⟨t / 2 * (t + 1), ?_⟩
      have : t = 2 * (t / 2) := by omega
      rw [← Int.mul_assoc, ← this]
    · refine ⟨t * ((t + 1) / 2), ?_⟩
      have : t + 1 = 2 * ((t + 1) / 2) := by omega
      conv => lhs; rw [this]
      rw [Int.mul_left_comm]
  obtain ⟨u, hu⟩ := h2
  refine ⟨-u, ?_⟩
  rw [ht]
  have e1 : t * (t + 1) = t * t + t * 1 := Int.mul_add _ _ _
  have e2 : (2 * t + 1) * (2 * t + 1) = (2 * t) * (2 * t + 1) + 1 * (2 * t + 1) := Int.add_mul _ _ _
  have e3 : (2 * t) * (2 * t + 1) = (2 * t) * (2 * t) + (2 * t) * 1 := Int.mul_add _ _ _
  have e4 : (2 * t) * (2 * t) = 4 * (t * t) := by rw [Int.mul_assoc, Int.mul_left_comm t 2 t, ← Int.mul_assoc]; omega
  omega

/-- Three steps from s itself give the inverse. -/
def inv3 (s : Int) : Int := newton s (newton s (newton s s))

theorem inv3_ok (s : Int) (h : s % 2 = 1) : (65536 : Int) ∣ 1 - s * inv3 s := by
  have h1 := newton_err s s 8 64 (odd_sq s h) ⟨1, by omega⟩ ⟨1024, by omega⟩
  have h2 := newton_err s _ 64 4096 h1 ⟨1, by omega⟩ ⟨16, by omega⟩
  exact newton_err s _ 4096 65536 h2 ⟨256, by omega⟩ ⟨1, by omega⟩

theorem dvd_shift (a b d : Int) (h : d ∣ b) : d ∣ a + b ↔ d ∣ a :=
  ⟨fun h1 => by have := Int.dvd_sub h1 h; rwa [show a + b - b = a by omega] at this, fun h1 => Int.dvd_add h1 h⟩

theorem port_zero_iff (next step neg : Int) (hneg : (65536 : Int) ∣ neg + next) (i : Nat) : port next step i = 0 ↔ (65536 : Int) ∣ (i : Int) * step - neg := by
  unfold port
  rw [← Int.dvd_iff_emod_eq_zero, show next + (i : Int) * step = ((i : Int) * step - neg) + (neg + next) by omega]
  exact dvd_shift _ _ _ hneg

theorem port_none (next step neg G M : Int) (hG : G * M = 65536) (hs : G ∣ step) (hneg : (65536 : Int) ∣ neg + next) (hno : ¬ G ∣ neg) (i : Nat) : port next step i ≠ 0 := by
  intro h
  have h1 := (port_zero_iff next step neg hneg i).1 h
  have h2 : G ∣ (i : Int) * step - neg := Int.dvd_trans ⟨M, hG.symm⟩ h1
  have h3 : G ∣ (i : Int) * step := Int.dvd_mul_of_dvd_right hs
  have h4 := Int.dvd_sub h3 h2
  rw [show (i : Int) * step - ((i : Int) * step - neg) = neg by omega] at h4
  exact hno h4

theorem port_some (next step neg G M s c x : Int) (hG : G * M = 65536) (h0 : 0 < G) (hs : step = G * s) (hc : neg = G * c) (hneg : (65536 : Int) ∣ neg + next) (hx : (65536 : Int) ∣ 1 - s * x) (i : Nat) :
    port next step i = 0 ↔ (i : Int) % M = (c * x) % M := by
  rw [port_zero_iff next step neg hneg i, Int.emod_eq_emod_iff_emod_sub_eq_zero, ← Int.dvd_iff_emod_eq_zero]
  have hM : M ∣ 1 - s * x := Int.dvd_trans ⟨G, by rw [Int.mul_comm]; exact hG.symm⟩ hx
  have e1 : (i : Int) * step - neg = G * ((i : Int) * s - c) := by
    rw [hs, hc, Int.mul_sub, Int.mul_left_comm]
  rw [e1, ← hG]
  have h1 : G * M ∣ G * ((i : Int) * s - c) ↔ M ∣ (i : Int) * s - c := by
    constructor
    · intro h; exact Int.dvd_of_mul_dvd_mul_left (by omega) h
    · intro h; exact Int.mul_dvd_mul_left G h
  rw [h1]
  have e2 : (i : Int) - c * x = (i : Int) * (1 - s * x) + x * ((i : Int) * s - c) := by
    have a1 : (i : Int) * (1 - s * x) = (i : Int) * 1 - (i : Int) * (s * x) := Int.mul_sub _ _ _
    have a2 : x * ((i : Int) * s - c) = x * ((i : Int) * s) - x * c := Int.mul_sub _ _ _
    have a3 : x * ((i : Int) * s) = (i : Int) * (s * x) := by rw [Int.mul_left_comm, Int.mul_comm x s]
    have a4 : x * c = c * x := Int.mul_comm _ _
    omega
  have e3 : (i : Int) * s - c = s * ((i : Int) - c * x) - c * (1 - s * x) := by
    have a1 : s * ((i : Int) - c * x) = s * (i : Int) - s * (c * x) := Int.mul_sub _ _ _
    have a2 : c * (1 - s * x) = c * 1 - c * (s * x) := Int.mul_sub _ _ _
    have a3 : s * (c * x) = c * (s * x) := Int.mul_left_comm _ _ _
    have a4 : s * (i : Int) = (i : Int) * s := Int.mul_comm _ _
    omega
  constructor
  · intro h
    rw [e2]
    exact Int.dvd_add (Int.dvd_mul_of_dvd_right hM) (Int.dvd_mul_of_dvd_right h)
  · intro h
    rw [e3]
    exact Int.dvd_sub (Int.dvd_mul_of_dvd_right h) (Int.dvd_mul_of_dvd_right hM)

/-! ### the count of zero ports -/
theorem zeros_none (next step : Int) (h : ∀ i, port next step i ≠ 0) : ∀ n, zeros next step n = 0
  | 0 => rfl
  | n + 1 => by rw [zeros, zeros_none next step h n, if_neg (h n)]
theorem zeros_all (next step : Int) (h : ∀ i, port next step i = 0) : ∀ n, zeros next step n = n
  | 0 => rfl
  | n + 1 => by rw [zeros, zeros_all next step h n, if_pos (h n)]
theorem zeros_cnt (next step m i0 : Int) (h : ∀ i : Nat, port next step i = 0 ↔ (i : Int) % m = i0) : ∀ n, zeros next step n = cntMod m i0 n
  | 0 => rfl
  | n + 1 => by
    rw [zeros, cntMod, zeros_cnt next step m i0 h n]
    by_cases c : port next step n = 0
    · rw [if_pos c, if_pos ((h n).1 c)]
    · rw [if_neg c, if_neg (fun x => c ((h n).2 x))]

theorem zeros_step0 (next : Int) (h0 : 0 ≤ next) (h1 : next ≤ 65535) (n : Nat) : (zeros next 0 n : Int) = if next = 0 then (n : Int) else 0 := by
  have e : ∀ i, port next 0 i = next := fun i => by unfold port; rw [Int.mul_zero]; omega
  by_cases h : next = 0
  · rw [if_pos h, zeros_all next 0 (fun i => by rw [e]; exact h)]
  · rw [if_neg h, zeros_none next 0 (fun i => by rw [e]; exact h)]; rfl

end Go.Proofs.Qxb6628242a
