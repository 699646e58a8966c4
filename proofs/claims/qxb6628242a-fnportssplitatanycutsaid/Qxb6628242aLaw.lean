/-
  THE WALK OF THE LAW (function 3): for every Next, Step and counts the call returns true and turns nothing that was there.
-/
import Derived.Test.Qxb6628242aPorts
import Derived.Deep.QuietTactic
import Derived.BigQuiet
namespace Go.Proofs.Qxb6628242a
open Go.RowKit

theorem hid4 {p : Prop} (h : p) : Hid p := h

theorem boxes (w : World) (next step x : Int) {w1 : World} (hb : Below ((w.alloc (.cells #[.int .u16 next, .int .u16 step] 24)).alloc (.cells #[.int .u16 x, .int .u16 step] 24)).heap.size ((w.alloc (.cells #[.int .u16 next, .int .u16 step] 24)).alloc (.cells #[.int .u16 x, .int .u16 step] 24)) w1) :
    w1.cell? ⟨w.heap.size, 0, none⟩ = some (.int .u16 next) ∧ w1.cell? ⟨w.heap.size, 1, none⟩ = some (.int .u16 step) ∧ w1.cell? ⟨w.heap.size + 1, 0, none⟩ = some (.int .u16 x) ∧ w1.cell? ⟨w.heap.size + 1, 1, none⟩ = some (.int .u16 step) ∧ Below w.heap.size w w1 := by
  have hs : ((w.alloc (.cells #[.int .u16 next, .int .u16 step] 24)).alloc (.cells #[.int .u16 x, .int .u16 step] 24)).heap.size = w.heap.size + 2 := by simp
  have hp := heap_alloc2_old w (.cells #[.int .u16 next, .int .u16 step] 24) (.cells #[.int .u16 x, .int .u16 step] 24)
  have hq := heap_alloc2_new w (.cells #[.int .u16 next, .int .u16 step] 24) (.cells #[.int .u16 x, .int .u16 step] 24)
  refine ⟨?_, ?_, ?_, ?_, ?_⟩
  · rw [hb.cell (p := ⟨w.heap.size, 0, none⟩) (by simp; omega), cell_of_row _ _ _ _ _ _ hp]; rfl
  · rw [hb.cell (p := ⟨w.heap.size, 1, none⟩) (by simp; omega), cell_of_row _ _ _ _ _ _ hp]; rfl
  · rw [hb.cell (p := ⟨w.heap.size + 1, 0, none⟩) (by simp), cell_of_row _ _ _ _ _ _ hq]; rfl
  · rw [hb.cell (p := ⟨w.heap.size + 1, 1, none⟩) (by simp), cell_of_row _ _ _ _ _ _ hq]; rfl
  · exact (((Below.refl _ _).alloc (Nat.le_refl _) _).alloc (by simp) _).trans (hb.mono (by omega))

/-- The three slices, as the loops read them. -/
def Three (w wr : World) (aW aH aT : Option Addr) (gW gH gT : Nat) (H T : List Int) : Prop := RowI wr aW gW (H ++ T) ∧ RowI wr aH gH H ∧ RowI wr aT gT T ∧ Below w.heap.size w wr

theorem RowI.alike {X Y : World} {a : Option Addr} {g : Nat} {xs : List Int} (h : RowI X a g xs) (hh : Y.heap = X.heap) : RowI Y a g xs :=
  ⟨fun h0 => ⟨(h.1 h0).1, by rw [hh]; exact (h.1 h0).2⟩, fun i hi => by have := h.2 i hi; unfold World.cell? at this ⊢; rw [hh]; exact this⟩
theorem Three.alike {w X Y : World} {aW aH aT : Option Addr} {gW gH gT : Nat} {H T : List Int} (h : Three w X aW aH aT gW gH gT H T) (hh : Y.heap = X.heap) (ho : Y.os = X.os) (ht : Y.tape = X.tape) (hp : Y.output = X.output) : Three w Y aW aH aT gW gH gT H T := by
  obtain ⟨h1, h2, h3, hb⟩ := h
  exact ⟨h1.alike hh, h2.alike hh, h3.alike hh, ⟨ho.trans hb.os, ht.trans hb.tape, hp.trans hb.output, by rw [hh]; exact hb.size, fun k a => by rw [hh]; exact hb.block k a⟩⟩

set_option maxRecDepth 100000 in
set_option maxHeartbeats 1000000 in
theorem law_in (next step : Int) (a b : Nat) (w : World) (h0 : 0 ≤ next) (h1 : next ≤ 65535) (h2 : 0 ≤ step) (h3 : step ≤ 65535) (ha : a ≤ 65536) (hb : b ≤ 65536) :
    Calls Try.prog 3 #[.int .u16 next, .int .u16 step, .int .i64 a, .int .i64 b] w fun e w' => e = .returned (.bool true) ∧ Below w.heap.size w w' := by
  have d1 : decide ((a : Int) < 0) = false := decide_eq_false (by omega)
  have d2 : decide ((b : Int) < 0) = false := decide_eq_false (by omega)
  have d3 : decide ((65536 : Int) < (a : Int)) = false := decide_eq_false (by omega)
  have d4 : decide ((65536 : Int) < (b : Int)) = false := decide_eq_false (by omega)
  obtain ⟨x, hx⟩ : ∃ x : Int, IntKind.u16.wrap (next + IntKind.u16.wrap (IntKind.u16.wrap (a : Int) * step)) = x := ⟨_, rfl⟩
  have HX : Hid (x = port next step a) := by rw [← hx]; exact port_wrap next step a
  have cW := fun W => ports_row next step (a + b) W (by omega)
  rw [Int.natCast_add, ports_add, ← HX.out] at cW
  have CW := hid4 cW
  have cH := fun W => ports_row next step a W (by omega)
  have CH := hid4 cH
  have cT := fun W => ports_row x step b W (by omega)
  have CT := hid4 cT
  have cZ := fun W => zc_any next step (a + b) W h0 h1 h2 h3 (by omega)
  have hl := ports_len next step (a + b)
  rw [ports_add, ← HX.out] at hl
  rw [Int.natCast_add] at cZ
  have CZ := hid4 cZ
  clear cW cH cT cZ
  generalize ports next step a = H at *
  generalize ports x step b = T at *
  generalize (zeros next step (a + b)) = z at *
  rw [List.length_append] at hl
  have hH : H.length ≤ 131072 := by omega
  have hT : T.length ≤ 131072 := by omega
  have hzl : (z : Int) ≤ (a : Int) + (b : Int) := by omega
  have hbz : (((H.length : Int) + (T.length : Int)) != (a : Int) + (b : Int) - (z : Int)) = false := by simp; omega
  clear hl
  go_enter Try.func3, Try.ntmps3
  go_wp2_with fail
  refine (CW.out _).mono ?_
  rintro e w1 ⟨aW, cW, gW, rfl, RW, bW⟩
  have f1 := boxes w next step x bW
  obtain ⟨p0, p1, q0, q1, hw1⟩ := f1
  rw [List.length_append]
  go_wp2_with fail
  refine (CH.out _).mono ?_
  rintro e w2 ⟨aH, cH, gH, rfl, RH, bH⟩
  have RW2 : Hid (RowI w2 aW gW (H ++ T)) := RW.out.below bH
  have q0' := (bH.cell (p := ⟨w.heap.size + 1, 0, none⟩) (World.block_lt_of_cell? _ _ q0)).trans q0
  have q1' := (bH.cell (p := ⟨w.heap.size + 1, 1, none⟩) (World.block_lt_of_cell? _ _ q1)).trans q1
  clear p0 p1 q0 q1
  go_wp2_with fail
  refine (CT.out _).mono ?_
  rintro e w3 ⟨aT, cT, gT, rfl, RT, bT⟩
  have RW3 : Hid (RowI w3 aW gW (H ++ T)) := RW2.out.below bT
  have RH3 : Hid (RowI w3 aH gH H) := RH.out.below bT
  have HB : Hid (Below w.heap.size w w3) := hw1.trans ((bH.mono hw1.size).trans (bT.mono (Nat.le_trans hw1.size bH.size)))
  clear q0' q1' RW RW2 RH hw1 bW bH bT
  go_wp2_with fail
  refine (CZ.out _).mono ?_
  rintro e w4 ⟨rfl, hw4⟩
  have hw5 := hw4.symm
  clear hw4
  subst hw5
  go_wp2_with fail
  have H3 : Hid (Three w w3 aW aH aT gW gH gT H T) := ⟨RW3.out, RH3.out, RT.out, HB.out⟩
  clear RW3 RH3 RT HB CW CH CT CZ hbz hzl d1 d2 d3 d4
  go_loopw [14] (fun i wr => ∃ k : Nat, k ≤ H.length ∧ i = .int .i64 k ∧ Hid (Three w wr aW aH aT gW gH gT H T)) (fun i _ => H.length - (intOf i).toNat)
  case atStart => exact ⟨0, Nat.zero_le _, rfl, H3.out⟩
  case round =>
    clear H3
    obtain ⟨k, hk, rfl, H3⟩ := hrel
    by_cases hlt : k < H.length
    · obtain ⟨rw1, rh1, _, _⟩ := H3.out
      have cw := rw1.2 k (by simp; omega)
      have ch := rh1.2 k hlt
      rw [List.getElem_append_left hlt] at cw
      obtain ⟨rfl, _⟩ := rw1.1 (by simp; omega)
      obtain ⟨rfl, _⟩ := rh1.1 (by omega)
      clear rw1 rh1
      generalize H[k] = y at *
      have hi1 : (k : Int) < (H.length : Int) := by omega
      have hi2 : (k : Int) < (H.length : Int) + (T.length : Int) := by omega
      go_wp2_with fail
      go_quiet (fail)
      go_wp2_with fail
      go_roundw
      case rel => exact ⟨k + 1, by omega, by go_num, H3.out.alike rfl rfl rfl rfl⟩
      case measure => simp [intOf]; omega
    · obtain ⟨wx, rfl⟩ : ∃ wx : World, wx = wr := ⟨_, rfl⟩
      go_wp2_with fail
      go_loopw [15] (fun i wr => ∃ k : Nat, k ≤ T.length ∧ i = .int .i64 k ∧ Hid (Three w wr aW aH aT gW gH gT H T)) (fun i _ => T.length - (intOf i).toNat)
      case atStart => exact ⟨0, Nat.zero_le _, rfl, H3.out⟩
      case round =>
        clear H3 hlt hk
        obtain ⟨j, hj, rfl, H3⟩ := hrel
        by_cases hlt : j < T.length
        · obtain ⟨rw1, _, rt1, _⟩ := H3.out
          have cw := rw1.2 (H.length + j) (by simp; omega)
          have ct := rt1.2 j hlt
          rw [List.getElem_append_right (by omega)] at cw
          simp only [Nat.add_sub_cancel_left] at cw
          obtain ⟨rfl, _⟩ := rw1.1 (by simp; omega)
          obtain ⟨rfl, _⟩ := rt1.1 (by omega)
          clear rw1 rt1
          generalize T[j] = y at *
          have hi1 : (j : Int) < (T.length : Int) := by omega
          have hi2 : (H.length : Int) + (j : Int) < (H.length : Int) + (T.length : Int) := by omega
          have hw1 : IntKind.i64.wrap ((H.length : Int) + (j : Int)) = (H.length : Int) + (j : Int) := by rw [IntKind.wrap_i64]; omega
          have ht1 : ((H.length : Int) + (j : Int)).toNat = H.length + j := by omega
          go_wp2_with fail
          go_quiet (fail)
          go_wp2_with fail
          go_roundw
          case rel => exact ⟨j + 1, by omega, by go_num, H3.out.alike rfl rfl rfl rfl⟩
          case measure => simp [intOf]; omega
        · go_wp2_with fail
          go_ret
          exact ⟨rfl, H3.out.2.2.2⟩
/-- Whatever the four numbers. -/
theorem law_any (next step a b : Int) (w : World) (h0 : 0 ≤ next ∧ next ≤ 65535) (h1 : 0 ≤ step ∧ step ≤ 65535) :
    Calls Try.prog 3 #[.int .u16 next, .int .u16 step, .int .i64 a, .int .i64 b] w fun e w' => e = .returned (.bool true) ∧ Below w.heap.size w w' := by
  by_cases ca : a < 0
  · have d1 := decide_eq_true ca
    go_enter Try.func3, Try.ntmps3
    go_wp2_with fail
    go_ret
    exact ⟨rfl, Below.refl _ _⟩
  have d1 := decide_eq_false ca
  by_cases cb : b < 0
  · have d2 := decide_eq_true cb
    go_enter Try.func3, Try.ntmps3
    go_wp2_with fail
    go_ret
    exact ⟨rfl, Below.refl _ _⟩
  have d2 := decide_eq_false cb
  by_cases ca2 : 65536 < a
  · have d3 := decide_eq_true ca2
    go_enter Try.func3, Try.ntmps3
    go_wp2_with fail
    go_ret
    exact ⟨rfl, Below.refl _ _⟩
  have d3 := decide_eq_false ca2
  by_cases cb2 : 65536 < b
  · have d4 := decide_eq_true cb2
    go_enter Try.func3, Try.ntmps3
    go_wp2_with fail
    go_ret
    exact ⟨rfl, Below.refl _ _⟩
  clear d1 d2 d3
  obtain ⟨m, rfl⟩ : ∃ m : Nat, a = (m : Int) := ⟨a.toNat, by omega⟩
  obtain ⟨n, rfl⟩ : ∃ n : Nat, b = (n : Int) := ⟨b.toNat, by omega⟩
  exact law_in next step m n w h0.1 h0.2 h1.1 h1.2 (by omega) (by omega)

end Go.Proofs.Qxb6628242a
