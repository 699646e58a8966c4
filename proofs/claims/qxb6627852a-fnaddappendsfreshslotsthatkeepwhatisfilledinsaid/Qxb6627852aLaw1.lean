/-
  THE WALK OF THE FIRST LAW (function 3): for every slice of strings the call returns true and turns nothing that was there.
-/
import Derived.Test.Qxb6627852aFill
import Derived.Test.Qxb6627852aKeys
import Derived.Lib.Builder
namespace Go.Proofs.Qxb6627852a
open Go.RowKit Go.Maps

/-- The state between two rounds of the second loop. -/
def LSt (w wr : World) (es : List Ent) : Prop := (∃ u, St wr w.heap.size es u) ∧ Below w.heap.size w wr

theorem Try.info47 : ∃ j, Try.prog.info? 47 = some j := Option.isSome_iff_exists.1 (by kernel_rfl)
theorem hid_mk {p : Prop} (h : p) : Hid p := h
theorem LSt.alike {w X Y : World} {es : List Ent} (h : LSt w X es) (hh : Y.heap = X.heap) (ho : Y.os = X.os) (ht : Y.tape = X.tape) (hp : Y.output = X.output) : LSt w Y es := by
  obtain ⟨⟨u, sl, mv, h1, h2, h3⟩, hb⟩ := h
  refine ⟨⟨u, sl, mv, by unfold TabAt; rw [hh]; exact h1, ?_, ?_⟩, ⟨ho.trans hb.os, ht.trans hb.tape, hp.trans hb.output, by rw [hh]; exact hb.size, fun k a => by rw [hh]; exact hb.block k a⟩⟩
  · rcases h2 with h | ⟨g, full, z, h4, h5, h6, h7, h8⟩
    · exact .inl h
    · exact .inr ⟨g, full, z, h4, h5, by unfold RowAt; rw [hh]; exact h6, h7, h8⟩
  · rcases h3 with h | ⟨m, a, b, c, d, e⟩
    · exact .inl h
    · exact .inr ⟨m, a, b, c, d, by unfold Ix World.ownsMap at e ⊢; rw [hh]; exact e⟩
theorem LSt.start (w : World) : LSt w (w.alloc (.cells #[.slice none 0 0, .bool false, .map none, .int .u8 0] 42)) [] :=
  ⟨⟨false, _, _, heap_alloc_new w _, .inl ⟨rfl, rfl⟩, .inl ⟨rfl, .inr rfl⟩⟩, (Below.refl _ _).alloc (Nat.le_refl _) _⟩

/-- Behind the add of round k: the table holds one entry more, not yet filled in. -/
def Mid (w w1 : World) (g k : Nat) (ks : List ByteArray) (s : ByteArray) : Prop := (∃ u, StG w1 w.heap.size g (filled (ks.take k) ++ [newEnt s]) u) ∧ Below w.heap.size w w1

theorem add_round (w wr : World) (ks : List ByteArray) (k : Nat) (hk : k < ks.length) (h4 : ks.length ≤ 4096) (hfits : ∀ s ∈ ks, s.size ≤ maxLen) (hL : LSt w wr (filled (ks.take k))) (s : ByteArray) (hs : s = ks[k]) :
    Calls Try.prog 7 #[.pointer (some ⟨w.heap.size, 0, none⟩), .string s] wr fun e w1 => ∃ g c, e = .returned (.pointer (some ⟨g, k * 7 + 1, none⟩)) ∧ w1.cell? ⟨w.heap.size, 0, none⟩ = some (.slice (some ⟨g, 0, none⟩) (k + 1) c) ∧
      w1.cell? ⟨g, k * 7 + 1, none⟩ = some (.int .u8 0) ∧ w1.cell? ⟨g, k * 7 + 1 + 1, none⟩ = some (.int .i32 0) ∧ w1.cell? ⟨g, k * 7 + 1 + 2, none⟩ = some (.string ⟨#[]⟩) ∧ w1.cell? ⟨g, k * 7 + 1 + 3, none⟩ = some (.int .u64 0) ∧ w1.cell? ⟨g, k * 7 + 1 + 4, none⟩ = some (.pointer none) ∧ w1.cell? ⟨g, k * 7 + 1 + 5, none⟩ = some (.pointer none) ∧
      w1.frozen? ⟨g, k * 7 + 1 + 1, none⟩ = false ∧ w1.frozen? ⟨g, k * 7 + 1 + 2, none⟩ = false ∧ Hid (Mid w w1 g k ks s) := by
  obtain ⟨⟨u, hst⟩, hbl⟩ := hL
  have hlen : (filled (ks.take k)).length = k := by rw [filled_length, List.length_take]; omega
  have hsz : s.size ≤ maxLen := by rw [hs]; exact hfits _ (List.getElem_mem _)
  refine (zzadd wr w.heap.size (filled (ks.take k)) s u hsz (by omega) (filledFrom_fits _ 0 (fun x hx => hfits x (List.mem_of_mem_take hx))) hst).mono ?_
  rintro e w1 ⟨g, rfl, h1, h2⟩
  have hb : Below w.heap.size w w1 := hbl.trans h2
  obtain ⟨c, hc⟩ := h1.tab
  rw [List.length_append, List.length_singleton, hlen] at hc
  have hg : (filled (ks.take k) ++ [newEnt s])[k]'(by simp; omega) = newEnt s := by
    rw [List.getElem_append_right (by omega)]; simp
  have cell := fun j hj => (h1.cells k (by simp; omega) j hj).trans (congrArg (fun x => (entCells x)[j]?) hg)
  rw [hlen]
  refine ⟨g, c, rfl, hc, cell 1 (by omega), cell 2 (by omega), cell 3 (by omega), cell 4 (by omega), cell 5 (by omega), cell 6 (by omega), h1.frozen _, h1.frozen _, ⟨⟨_, h1⟩, hb⟩⟩

theorem fill_round {w w1 : World} {g k : Nat} {ks : List ByteArray} {s : ByteArray} (hk : k < ks.length) (hs : s = ks[k]) (h : Mid w w1 g k ks s) (n : Nat) :
    LSt w (((w1.drewN n).setCell ⟨g, k * 7 + 1 + 2, none⟩ (.string s)).setCell ⟨g, k * 7 + 1 + 1, none⟩ (.int .i32 ((k : Int) + 1))) (filled (ks.take (k + 1))) := by
  obtain ⟨⟨u, h1⟩, hb⟩ := h
  have hlen : (filled (ks.take k)).length = k := by rw [filled_length, List.length_take]; omega
  have h2 := (h1.fill ((k : Int) + 1) s)
  rw [hlen] at h2
  have hlt : w.heap.size < g := by obtain ⟨full, z, mv, _, h2, _⟩ := h1; exact h2
  refine ⟨⟨u, ?_⟩, ?_⟩
  · rw [filled_take_succ ks k hk, ← hs]
    exact (St.of_G h2 : St _ _ _ _)
  · exact ((hb.trans (⟨rfl, rfl, rfl, Nat.le_refl _, fun _ _ => rfl⟩ : Below _ w1 (w1.drewN n))).setCell (p := ⟨g, k * 7 + 1 + 2, none⟩) (Nat.le_of_lt hlt) _).setCell (p := ⟨g, k * 7 + 1 + 1, none⟩) (Nat.le_of_lt hlt) _

theorem LSt.tab {w wr : World} {es : List Ent} (h : LSt w wr es) : ∃ a c, wr.cell? ⟨w.heap.size, 0, none⟩ = some (.slice a es.length c) ∧ (0 < es.length → ∃ g, a = some ⟨g, 0, none⟩ ∧ ∃ u, StG wr w.heap.size g es u) := by
  obtain ⟨⟨u, sl, mv, h1, h2, h3⟩, _⟩ := h
  rcases h2 with ⟨rfl, rfl⟩ | ⟨g, full, z, rfl, h4, h5, h6, h7⟩
  · exact ⟨none, 0, h1.c0, fun h => by simp at h⟩
  · exact ⟨_, _, h1.c0, fun _ => ⟨g, rfl, u, full, z, mv, h1, h4, h5, h6, h7, h3⟩⟩

/-- The cells of entry i, filled in. -/
theorem cells_filled {w wx : World} {g : Nat} {ks : List ByteArray} {u : Bool} (h : StG wx w.heap.size g (filled ks) u) (i : Nat) (hi : i < ks.length) (j : Nat) (hj : j < 7) :
    wx.cell? ⟨g, i * 7 + j, none⟩ = (entCells ⟨ks[i], (i : Int) + 1, ks[i]⟩)[j]? := by
  rw [h.cells i (by rw [filled_length]; exact hi) j hj, filled_get ks i hi]

set_option maxRecDepth 100000 in
set_option maxHeartbeats 1000000 in
theorem law1 (w : World) (ka : Option Addr) (len cap : Nat) (ks : List ByteArray) (b off : Nat) (hk : KeyAt w ka len ks b off) :
    Calls Try.prog 3 #[.slice ka len cap] w fun e w' => e = .returned (.bool true) ∧ Below w.heap.size w w' := by
  have HK : Hid (KeyAt w ka len ks b off) := hk
  clear hk
  by_cases h4 : (4096 : Int) < (len : Int)
  · go_enter Try.func3, Try.ntmps3
    go_wp2_with (go_at_call 5; refine (guard5 w ka len cap ks b off HK.out).mono ?_; rintro e w' ⟨⟨r, rfl⟩, rfl⟩; cases r)
    all_goals (go_ret; exact ⟨rfl, Below.refl _ _⟩)
  · go_enter Try.func3, Try.ntmps3
    go_wp2_with (go_at_call 5; refine (guard5 w ka len cap ks b off HK.out).mono ?_; rintro e w' ⟨⟨r, rfl⟩, hw'⟩; have hw2 := hw'.symm; clear hw'; subst hw2; cases r)
    · go_ret; exact ⟨rfl, Below.refl _ _⟩
    go_loop [3, 4] (fun z i => ∃ (k : Nat) (t : Int), k ≤ len ∧ i = .int .i64 k ∧ z = .int .i64 t) (fun _ i => len - (intOf i).toNat)
    case atStart => exact ⟨0, 0, Nat.zero_le _, rfl, rfl⟩
    case round =>
      obtain ⟨k, t, hkl, rfl, rfl⟩ := hrel
      by_cases hlt : k < len
      · have hks : k < ks.length := by rw [HK.out.hlen]; exact hlt
        have hc := HK.out.cell k hks
        obtain ⟨s, hs⟩ : ∃ s, s = ks[k] := ⟨_, rfl⟩
        rw [← hs] at hc
        clear hs
        obtain rfl := HK.out.at_ (by omega)
        go_wp2
        · go_ret
          exact ⟨rfl, Below.refl _ _⟩
        · go_round
          case rel => exact ⟨k + 1, _, by omega, by go_num, rfl⟩
          case measure => simp [intOf]; omega
      · go_wp2_with (go_at_call 6; refine (newTable _).mono ?_; rintro e w1 ⟨rfl, hw1⟩; have HW := hid_mk hw1; clear hw1)
        go_loopw [6] (fun i wr => ∃ k : Nat, k ≤ len ∧ i = .int .i64 k ∧ Hid (LSt w wr (filled (ks.take k)))) (fun i _ => len - (intOf i).toNat)
        case atStart => exact ⟨0, Nat.zero_le _, rfl, by rw [HW.out]; exact LSt.start w⟩
        case round =>
          obtain ⟨k, hkl, rfl, HL⟩ := hrel
          by_cases hlt : k < len
          · have hks : k < ks.length := by rw [HK.out.hlen]; exact hlt
            have hc := (HK.out.below HL.out.2 (Nat.le_refl _)).cell k hks
            obtain ⟨s, hs⟩ : ∃ s, s = ks[k] := ⟨_, rfl⟩
            rw [← hs] at hc
            have HS : Hid (s = ks[k]) := hs
            clear hs
            have HA := hid_mk (add_round w wr ks k hks (by have := HK.out.hlen; omega) HK.out.fits HL.out s HS.out)
            clear hlt
            have hlt : k < len := by have := HK.out.hlen; omega
            obtain rfl := HK.out.at_ (by omega)
            go_wp2_with fail
            refine HA.out.mono ?_
            rintro e w2 ⟨g, c, rfl, c0, v0, v1, v2, v3, v4, v5, f1, f2, HM⟩
            clear HA
            have hc2 := (HK.out.below HM.out.2 (Nat.le_refl _)).cell k hks
            rw [← HS.out] at hc2
            clear hc
            have hpp : ∀ (X : World) (ad : Addr), (binOp .neq 26 (.pointer (some ad)) (.pointer (some ad))).run Try.prog X = .ok (.bool false) X := fun X ad => by
              obtain ⟨j, hj⟩ := Try.info47
              exact Lib.run_neq_ptr_same X ad Try.underlying26 hj
            have hwk : IntKind.i32.wrap ((k : Int) + 1) = (k : Int) + 1 := by have := i32_wrap (k + 1) (by omega); simpa using this
            go_wp2_with fail
            refine (len_any w2 _ (k + 1) c _ c0).mono ?_
            rintro e w3 ⟨rfl, rfl⟩
            go_wp2_with fail
            refine (entryValue w3 _ g (k + 1) c k c0 (by omega)).mono ?_
            rintro e w2 ⟨rfl, rfl⟩
            go_wp2_with fail
            refine (valueFields w2 g (k * 7 + 1) 0 ⟨#[]⟩ v0 v1 v2 v3 v4 v5).mono ?_
            rintro e w3 ⟨rfl, nd, rfl⟩
            go_wp2_with fail
            refine (setValueText _ g (k * 7 + 1) _ 0 s ⟨#[]⟩ ?_ ?_ ?_ ?_).mono ?_
            · exact v1
            · exact v2
            · exact f1
            · exact f2
            rintro e w3 ⟨rfl, rfl⟩
            go_wp2_with fail
            go_roundw
            case rel => exact ⟨k + 1, by omega, by go_num, fill_round hks HS.out HM.out nd⟩
            case measure => simp [intOf]; omega
          · have hke : k = len := by omega
            have htk : ks.take k = ks := List.take_of_length_le (by rw [HK.out.hlen]; omega)
            rw [htk] at HL
            obtain ⟨a, c, c0, hg⟩ := HL.out.tab
            rw [filled_length, HK.out.hlen] at c0 hg
            have HG := hid_mk hg
            clear hg htk
            obtain ⟨wx, rfl⟩ : ∃ wx : World, wx = wr := ⟨_, rfl⟩
            go_wp2_with fail
            refine (len_any wx _ len c _ c0).mono ?_
            rintro e w3 ⟨rfl, hw3⟩
            have hw4 := hw3.symm
            clear hw3
            subst hw4
            go_wp2_with fail
            clear c0 HG
            go_loopw [14] (fun i wr => ∃ k : Nat, k ≤ len ∧ i = .int .i64 k ∧ Hid (LSt w wr (filled ks))) (fun i _ => len - (intOf i).toNat)
            case atStart => exact ⟨0, Nat.zero_le _, rfl, HL.out⟩
            case round =>
              clear HL
              obtain ⟨i, hil, rfl, HL⟩ := hrel
              by_cases hlt : i < len
              · have hks : i < ks.length := by rw [HK.out.hlen]; exact hlt
                have hc := (HK.out.below HL.out.2 (Nat.le_refl _)).cell i hks
                obtain ⟨a, c, c0, hg⟩ := HL.out.tab
                rw [filled_length, HK.out.hlen] at c0 hg
                obtain ⟨g, rfl, u, hst⟩ := hg (by omega)
                have v0 := cells_filled hst i hks 0 (by omega)
                have v1 := cells_filled hst i hks 1 (by omega)
                have v2 := cells_filled hst i hks 2 (by omega)
                have v3 := cells_filled hst i hks 3 (by omega)
                have v4 := cells_filled hst i hks 4 (by omega)
                have v5 := cells_filled hst i hks 5 (by omega)
                have v6 := cells_filled hst i hks 6 (by omega)
                generalize ks[i] = s at *
                simp only [entCells, List.getElem?_cons_zero, List.getElem?_cons_succ, Nat.add_zero] at v0 v1 v2 v3 v4 v5 v6
                clear hst hks hg
                obtain rfl := HK.out.at_ (by omega)
                have hwk : IntKind.i32.wrap ((i : Int) + 1) = (i : Int) + 1 := by have := i32_wrap (i + 1) (by omega); simpa using this
                have hi1 : (i : Int) < (len : Int) := by omega
                go_wp2_with fail
                go_quiet ((go_at_call 12; exact Calls.quiet_of_same (entryKey _ _ g len c i s (by exact c0) hlt (by exact v0))))
                go_wp2_with fail
                refine (entryValue _ _ g len c i ?_ hlt).mono ?_
                · exact c0
                rintro e w3 ⟨rfl, rfl⟩
                go_wp2_with fail
                refine (valueFields _ g (i * 7 + 1) ((i : Int) + 1) s ?_ ?_ ?_ ?_ ?_ ?_).mono ?_
                · exact v1
                · exact v2
                · exact v3
                · exact v4
                · exact v5
                · exact v6
                rintro e w3 ⟨rfl, nd, rfl⟩
                go_wp2_with fail
                go_roundw
                case rel => exact ⟨i + 1, by omega, by go_num, HL.out.alike rfl rfl rfl rfl⟩
                case measure => simp [intOf]; omega
              · go_wp2_with fail
                go_ret
                exact ⟨rfl, HL.out.2⟩
end Go.Proofs.Qxb6627852a
