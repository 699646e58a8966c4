/-
  (PortPrediction).Ports (function 4): it computes 'ports'; the slice that it hands back, as the law reads it.
-/
import Derived.Test.Qxb6628242aZc
namespace Go.Proofs.Qxb6628242a
open Go.RowKit

theorem Try.info22 : (Try.prog.info? 22).map (fun i => (i.zero, i.size, i.bytes)) = some (some (.int .u16 0), 1, 2) := by kernel_rfl
def u16s (xs : List Int) : List Value := xs.map (Value.int .u16)

theorem wrap16 (a : Int) : IntKind.u16.wrap a = a % 65536 := by
  unfold IntKind.wrap
  simp [IntKind.bits, IntKind.signed]

theorem port_wrap (next step : Int) (k : Nat) : IntKind.u16.wrap (next + IntKind.u16.wrap (IntKind.u16.wrap (k : Int) * step)) = port next step k := by
  rw [wrap16, wrap16, wrap16]
  unfold port
  rw [Int.add_emod_emod, Int.add_emod, Int.mul_emod, Int.emod_emod, ← Int.mul_emod, ← Int.add_emod]

theorem ports_succ_no {next step : Int} {k : Nat} (h : port next step k = 0) : ports next step (k + 1) = ports next step k := by rw [ports, if_pos h, List.append_nil]
theorem ports_succ_yes {next step : Int} {k : Nat} (h : ¬ port next step k = 0) : ports next step (k + 1) = ports next step k ++ [port next step k] := by rw [ports, if_neg h]

set_option maxHeartbeats 1000000 in
theorem ports_any (next step : Int) (n : Nat) (w : World) (hn : n ≤ 131072) :
    Calls Try.prog 4 #[.agg #[.int .u16 next, .int .u16 step], .int .i64 n] w fun e w' => ∃ v, e = .returned v ∧ w'.ownsRow (w.heap.size + 1) 22 1 v (ports next step n).length (u16s (ports next step n)) ∧ Below w.heap.size w w' := by
  obtain ⟨i0, hi, hz0, hz1, hz2⟩ := info_parts Try.info22
  go_enter Try.func4, Try.ntmps4
  go_wp2_with fail
  go_loopw [5, 9] (fun v i wr => ∃ k : Nat, k ≤ n ∧ i = .int .i64 k ∧ Hid (wr.ownsRow (w.heap.size + 1) 22 1 v (ports next step k).length (u16s (ports next step k))) ∧ Hid (wr.heap[w.heap.size]? = some (.cells #[.int .u16 next, .int .u16 step] 24 (0, 0))) ∧ Hid (Below w.heap.size w wr)) (fun _ i _ => n - (intOf i).toNat)
  case atStart => exact ⟨0, Nat.zero_le _, rfl, World.ownsRow_nil _ _ _ _, heap_alloc_new w _, (Below.refl _ _).alloc (Nat.le_refl _) _⟩
  case round =>
    obtain ⟨k, hk, rfl, HO, HB, HL⟩ := hrel
    have hkc : ∀ o, wr.cell? ⟨w.heap.size, o, none⟩ = (#[Value.int .u16 next, .int .u16 step] : Array Value)[o]? := fun o => cell_of_row wr _ o _ _ _ HB.out
    have c0 := hkc 0
    have c1 := hkc 1
    simp at c0 c1
    clear hkc
    by_cases hlt : k < n
    · obtain ⟨x, hx⟩ : ∃ x : Int, IntKind.u16.wrap (next + IntKind.u16.wrap (IntKind.u16.wrap (k : Int) * step)) = x := ⟨_, rfl⟩
      have HX : Hid (x = port next step k) := by rw [← hx]; exact port_wrap next step k
      have hpl := ports_le next step k
      by_cases hx0 : x = 0
      · have hb : (x != 0) = false := by simpa using hx0
        have HS : Hid (ports next step (k + 1) = ports next step k) := ports_succ_no (by rw [← HX.out]; exact hx0)
        clear hx0
        go_wp2_with fail
        go_roundw
        case rel => exact ⟨k + 1, by omega, by go_num, by rw [HS.out]; exact HO.out, HB.out, HL.out⟩
        case measure => simp [intOf]; omega
      · have hb : (x != 0) = true := by simpa using hx0
        have HS : Hid (ports next step (k + 1) = ports next step k ++ [x]) := by rw [HX.out]; exact ports_succ_yes (by rw [← HX.out]; exact hx0)
        have hsz : w.heap.size < wr.heap.size := (Array.getElem?_eq_some_iff.1 HB.out).1
        clear hx0
        go_wp2_with (at_builtin; refine wpList_append_own _ rfl _ _ 25 rfl (w.heap.size + 1) 22 i0 (.int .u16 0) 1 2 Try.underlying25 hi hz0 hz1 hz2 rfl (by decide) _ _ _ rfl (HO.out.alloc _) ⟨wr.heap.size, 0, none⟩ 1 1 [.int .u16 x] rfl rfl (cell_one_new _ _ _) (by simp [Value.oneCell']) (by unfold maxLen; omega) (by omega) (by simp; omega) ?_; intro v' w1 hown' hgrow hnil)
        have hgb := HO.out.lt
        go_roundw
        case rel =>
          refine ⟨k + 1, by omega, by go_num, ?_, ?_, ?_⟩
          · rw [HS.out, List.length_append, List.length_singleton]
            unfold Hid u16s
            rw [List.map_append]
            exact hown'
          · refine (hgrow.block w.heap.size (by simp; omega) ?_).trans ((Below.heap_alloc wr _ _ hsz).trans HB.out)
            intro e
            have := (hgb _ e.symm).1
            omega
          · exact (HL.out.alloc HL.out.size _).grown hgrow (by simp; omega) (fun j hj => by have := (hgb j hj).1; omega)
        case measure => simp [intOf]; omega
    · have hke : k = n := by omega
      rw [hke] at HO
      go_wp2_with fail
      go_ret
      exact ⟨_, rfl, HO.out, HL.out⟩
/-! ### what the law reads of a slice of ports -/
def RowI (w : World) (a : Option Addr) (g : Nat) (xs : List Int) : Prop :=
  (0 < xs.length → a = some ⟨g, 0, none⟩ ∧ g < w.heap.size) ∧ ∀ (i : Nat) (h : i < xs.length), w.cell? ⟨g, i, none⟩ = some (.int .u16 xs[i])

theorem RowI.below {w w' : World} {a : Option Addr} {g : Nat} {xs : List Int} (h : RowI w a g xs) (hb : Below w.heap.size w w') : RowI w' a g xs := by
  refine ⟨fun h0 => ⟨(h.1 h0).1, Nat.lt_of_lt_of_le (h.1 h0).2 hb.size⟩, fun i hi => ?_⟩
  have hg : g < w.heap.size := (h.1 (by omega)).2
  exact (hb.cell (p := ⟨g, i, none⟩) hg).trans (h.2 i hi)

theorem RowI.of_own {w : World} {base : Nat} {v : Value} {xs : List Int} (h : w.ownsRow base 22 1 v xs.length (u16s xs)) : ∃ a c g, v = .slice a xs.length c ∧ RowI w a g xs := by
  rcases h.2 with ⟨rfl, h0⟩ | ⟨g, cap, cur, rfl, hb, hg, hn, hc, hs, ht⟩
  · refine ⟨none, 0, 0, by rw [h0], fun h1 => by omega, fun i hi => by omega⟩
  · refine ⟨_, cap, g, rfl, fun _ => ⟨rfl, (Array.getElem?_eq_some_iff.1 hg).1⟩, fun i hi => ?_⟩
    have hx : (u16s xs)[i]? = some (.int .u16 xs[i]) := by simp [u16s, hi]
    rw [cell_of_row w g i cur 22 (0, 0) hg]
    rw [← ht, List.getElem?_take] at hx
    split at hx
    · simpa using hx
    · cases hx

theorem ports_row (next step : Int) (n : Nat) (w : World) (hn : n ≤ 131072) :
    Calls Try.prog 4 #[.agg #[.int .u16 next, .int .u16 step], .int .i64 n] w fun e w' => ∃ a c g, e = .returned (.slice a (ports next step n).length c) ∧ Hid (RowI w' a g (ports next step n)) ∧ Below w.heap.size w w' := by
  refine (ports_any next step n w hn).mono ?_
  rintro e w' ⟨v, rfl, ho, hb⟩
  obtain ⟨a, c, g, rfl, hr⟩ := RowI.of_own ho
  exact ⟨a, c, g, rfl, hr, hb⟩

end Go.Proofs.Qxb6628242a
