/-
  THE LEAVES: what each small function of the table does, said of cells; and slices.Grow at a full slice (function 19).
-/
import Derived.Test.Qxb6627852aState
import Derived.Lib.AppendZerosOnto
import Derived.Deep.QuietTactic
import Derived.BigQuiet
import Derived.WalkLawsBesides
namespace Go.Proofs.Qxb6627852a
open Go.RowKit Go.Maps

set_option maxHeartbeats 400000 in
theorem newTable (w : World) : Calls Try.prog 6 #[] w fun e w' => e = .returned (.pointer (some ⟨w.heap.size, 0, none⟩)) ∧ w' = w.alloc (.cells #[.slice none 0 0, .bool false, .map none, .int .u8 0] 42) := by
  go_enter Try.func6, Try.ntmps6
  go_wp2
  go_ret
  exact ⟨rfl, rfl⟩

set_option maxHeartbeats 400000 in
theorem len_any (w : World) (tb n c : Nat) (a : Option Addr) (h0 : w.cell? ⟨tb, 0, none⟩ = some (.slice a n c)) : Calls Try.prog 8 #[.pointer (some ⟨tb, 0, none⟩)] w fun e w' => e = .returned (.int .i64 n) ∧ w' = w := by
  go_enter Try.func8, Try.ntmps8
  go_wp2
  go_ret
  exact ⟨rfl, rfl⟩

set_option maxHeartbeats 400000 in
theorem entryValue (w : World) (tb g n c i : Nat) (h0 : w.cell? ⟨tb, 0, none⟩ = some (.slice (some ⟨g, 0, none⟩) n c)) (hi : i < n) : Calls Try.prog 9 #[.pointer (some ⟨tb, 0, none⟩), .int .i64 i] w fun e w' => e = .returned (.pointer (some ⟨g, i * 7 + 1, none⟩)) ∧ w' = w := by
  go_enter Try.func9, Try.ntmps9
  go_wp2
  go_ret
  exact ⟨rfl, rfl⟩

set_option maxHeartbeats 400000 in
theorem entryKey (w : World) (tb g n c i : Nat) (s : ByteArray) (h0 : w.cell? ⟨tb, 0, none⟩ = some (.slice (some ⟨g, 0, none⟩) n c)) (hi : i < n) (hk : w.cell? ⟨g, i * 7, none⟩ = some (.string s)) : Calls Try.prog 12 #[.pointer (some ⟨tb, 0, none⟩), .int .i64 i] w fun e w' => e = .returned (.string s) ∧ w' = w := by
  go_enter Try.func12, Try.ntmps12
  go_wp2
  go_ret
  exact ⟨rfl, rfl⟩

set_option maxHeartbeats 400000 in
theorem valueFields (w : World) (b o : Nat) (line : Int) (text : ByteArray)
    (h0 : w.cell? ⟨b, o, none⟩ = some (.int .u8 0)) (h1 : w.cell? ⟨b, o + 1, none⟩ = some (.int .i32 line)) (h2 : w.cell? ⟨b, o + 2, none⟩ = some (.string text)) (h3 : w.cell? ⟨b, o + 3, none⟩ = some (.int .u64 0)) (h4 : w.cell? ⟨b, o + 4, none⟩ = some (.pointer none)) (h5 : w.cell? ⟨b, o + 5, none⟩ = some (.pointer none)) :
    Calls Try.prog 10 #[.pointer (some ⟨b, o, none⟩)] w fun e w' => e = .returned (.tuple #[.int .u8 0, .int .i32 line, .string text, .int .u64 0, .bool false, .bool false]) ∧ ∃ n, w' = w.drewN n := by
  go_enter Try.func10, Try.ntmps10
  go_wp2
  go_quiet (fail)
  go_wp2_with fail
  exact bodyPost_ret (v := .tuple #[.int .u8 0, .int .i32 line, .string text, .int .u64 0, .bool false, .bool false]) (by simp [results, Try.results10, go_sem]) rfl ⟨rfl, _, rfl⟩

set_option maxHeartbeats 400000 in
theorem setValueText (w : World) (b o : Nat) (line l0 : Int) (text t0 : ByteArray)
    (h1 : w.cell? ⟨b, o + 1, none⟩ = some (.int .i32 l0)) (h2 : w.cell? ⟨b, o + 2, none⟩ = some (.string t0)) (f1 : w.frozen? ⟨b, o + 1, none⟩ = false) (f2 : w.frozen? ⟨b, o + 2, none⟩ = false) :
    Calls Try.prog 11 #[.pointer (some ⟨b, o, none⟩), .string text, .int .i32 line] w fun e w' => e = .returned (.tuple #[]) ∧ w' = (w.setCell ⟨b, o + 2, none⟩ (.string text)).setCell ⟨b, o + 1, none⟩ (.int .i32 line) := by
  go_enter Try.func11, Try.ntmps11
  go_wp2
  go_end0
  exact ⟨rfl, rfl⟩

set_option maxHeartbeats 400000 in
theorem unsortedOf (w : World) (tb : Nat) (u : Bool) (h1 : w.cell? ⟨tb, 1, none⟩ = some (.bool u)) : Calls Try.prog 14 #[.pointer (some ⟨tb, 0, none⟩)] w fun e w' => e = .returned (.bool u) ∧ w' = w := by
  go_enter Try.func14, Try.ntmps14
  go_wp2
  go_ret
  exact ⟨rfl, rfl⟩

set_option maxHeartbeats 400000 in
theorem indexIsNil (w : World) (tb : Nat) (mv : Option Nat) (h2 : w.cell? ⟨tb, 2, none⟩ = some (.map mv)) : Calls Try.prog 15 #[.pointer (some ⟨tb, 0, none⟩)] w fun e w' => e = .returned (.bool mv.isNone) ∧ w' = w := by
  have hm := fun w => run_eql_map_nil (P := Try.prog) w 39 9 21 mv Try.underlying39
  go_enter Try.func15, Try.ntmps15
  go_wp2
  go_ret
  exact ⟨rfl, rfl⟩

theorem Try.law9 : Keyed Try.prog 9 := string_keyed Try.underlying9
theorem Try.zero21 (w : World) : (zeroValue 21).run Try.prog w = .ok (.int .i32 0) w := by kernel_rfl

set_option maxHeartbeats 400000 in
theorem indexGet (w : World) (tb m n : Nat) (s : ByteArray) (D : DataW Unit) (hs : s.size ≤ maxLen) (h2 : w.cell? ⟨tb, 2, none⟩ = some (.map (some m))) (hown : Ix w m n D) :
    Calls Try.prog 16 #[.pointer (some ⟨tb, 0, none⟩), .string s] w fun e w' => (∃ c : Int, e = .returned (.tuple #[.int .i32 c, .bool (Maps.has D (.string s.data.toList))]) ∧ D.atKey (.string s.data.toList) (.lit (.int .i32 0)) = .lit (.int .i32 c) ∧ (Lit.int .i32 c).wf = true) ∧ w' = w := by
  have hown' : Hid (Ix w m n D) := hown
  clear hown
  go_enter Try.func16, Try.ntmps16
  go_wp2_with (at_lookup; refine wpList_lookup_own_ok_int _ rfl _ _ 39 rfl 9 21 .i32 Try.law9 Try.underlying39 Try.underlying21 (Try.zero21 _) m n D rfl hown'.out _ _ rfl (WideMaps.keyOf_string_mk Try.underlying9 hs) ?_; intro c hat hwc)
  go_ret2
  exact ⟨⟨c, rfl, hat, hwc⟩, rfl⟩

set_option maxHeartbeats 400000 in
theorem indexLen (w : World) (tb m n : Nat) (D : DataW Unit) (h2 : w.cell? ⟨tb, 2, none⟩ = some (.map (some m))) (hown : Ix w m n D) :
    Calls Try.prog 17 #[.pointer (some ⟨tb, 0, none⟩)] w fun e w' => e = .returned (.int .i64 (Maps.size D)) ∧ w' = w := by
  have hown' : Hid (Ix w m n D) := hown
  clear hown
  go_enter Try.func17, Try.ntmps17
  go_wp2_with (at_len; refine wpList_len_own _ rfl _ 39 rfl 9 21 Try.underlying39 (plainElem Try.prog 21) m n D rfl hown'.out ?_)
  go_ret
  exact ⟨rfl, rfl⟩

/-! ### slices.Grow(s, len(s)+1) at len(s) == cap(s) -/
def zV : Value := .agg #[.string ⟨#[]⟩, .int .u8 0, .int .i32 0, .string ⟨#[]⟩, .int .u64 0, .pointer none, .pointer none]
theorem Try.info49 : (Try.prog.info? 49).map (fun i => (i.zero, i.size, i.bytes)) = some (some zV, 7, 64) := by kernel_rfl

theorem zeroCells_rowOf (k : Nat) : Builtin.zeroCells zV.cells k = (rowOf (List.replicate k zEnt)).toArray := by
  have hc : zV.cells = (entCells zEnt).toArray := rfl
  unfold Builtin.zeroCells
  rw [hc]
  apply Array.ext'
  apply List.ext_getElem?
  intro i
  by_cases hi : i < k * 7
  · have hq : i / 7 < (List.replicate k zEnt).length := by simp; omega
    have hg := rowOf_get (List.replicate k zEnt) (i / 7) (i % 7) hq (by omega)
    rw [show i / 7 * 7 + i % 7 = i by omega, List.getElem_replicate] at hg
    rw [hg]
    have h7 : i % 7 < (entCells zEnt).toArray.size := by simp [entCells_length]; omega
    simp only [Array.toList_map, List.getElem?_map, Array.toList_range, List.size_toArray, entCells_length]
    rw [List.getElem?_range hi]
    simp only [Option.map_some]
    rw [getElem!_pos (entCells zEnt).toArray (i % 7) h7]
    simp
  · rw [List.getElem?_eq_none (by simp [entCells_length]; omega), List.getElem?_eq_none (by simp [rowOf_length]; omega)]

theorem grow_row (es : List Ent) (n c : Nat) (h : 2 * n + 1 ≤ c) :
    (rowOf es).toArray ++ Builtin.zeroCells zV.cells (n + 1) ++ Builtin.zeroCells zV.cells (c - (n + (n + 1))) = (rowOf (es ++ List.replicate (c - n) zEnt)).toArray := by
  rw [zeroCells_rowOf, zeroCells_rowOf, List.append_toArray, List.append_toArray, rowOf_append, List.append_assoc, ← rowOf_append, List.replicate_append_replicate, show n + 1 + (c - (n + (n + 1))) = c - n by omega]

theorem nextcap (n : Nat) (h : n ≤ 4096) : Builtin.nextslicecap (n + (n + 1)) n * 64 ≤ 281474976710656 := by
  unfold Builtin.nextslicecap
  rw [if_pos (by omega)]
  omega

set_option maxHeartbeats 400000 in
theorem grow_any (w : World) (base : Option Addr) (n : Nat) (es : List Ent) (hl : es.length = n) (hn : n ≤ 4096)
    (hb : (base = none ∧ n = 0) ∨ ∃ g, base = some ⟨g, 0, none⟩ ∧ RowAt w g es) :
    Calls Try.prog 19 #[.slice base n n, .int .i64 (n + 1)] w fun e w' => ∃ c, e = .returned (.slice (some ⟨w.heap.size, 0, none⟩) n c) ∧ n + 1 ≤ c ∧ c ≤ maxLen ∧ w' = w.drew.alloc (.cells (rowOf (es ++ List.replicate (c - n) zEnt)).toArray 49) := by
  obtain ⟨i0, hi, hz0, hz1, hz2⟩ := info_parts Try.info49
  have hold : (Builtin.firstCells i0.size n (.slice base n n)).run Try.prog w.drew = .ok (rowOf es).toArray w.drew := by
    rcases hb with ⟨rfl, rfl⟩ | ⟨g, rfl, hr⟩
    · rw [List.length_eq_zero_iff.1 hl]
      exact run_firstCells_none w.drew _ 0 0 0
    · refine run_firstCells_some w.drew i0.size n ⟨g, 0, none⟩ n n (rowOf es) (by rw [rowOf_length, hl, hz1]) ?_
      intro j v hj
      have := cell_heap (w := w.drew) (show w.drew.heap[g]? = _ from hr) j
      rw [List.getElem?_toArray, hj] at this
      rw [Addr.add_lit, Nat.zero_add]
      exact this
  have hrun := fun ty => Lib.run_append_grow_zeros (P := Try.prog) w 38 3 ty 49 i0 zV .i64 .i64 Try.underlying38 Try.underlying3 hi hz0 base n n (rowOf es) hold (n + 1) (by omega) (by omega) (by omega) (by omega) (by rw [hz2]; omega) (by rw [hz2]; exact nextcap n hn)
  have hge := grownCap_ge w (n + (n + 1)) n 49
  have hle := grownCap_le_maxLen w (n + (n + 1)) n 49 (by unfold maxLen; omega)
  rw [grow_row es n _ (by omega)] at hrun
  generalize grownCap w (n + (n + 1)) n 49 = c at hrun hge hle
  clear hold hi hz0 hz1 hz2 hb
  have hrun' : Hid (∀ ty, (Builtin.append_ #[38, 3] ty #[.slice base n n, .int .i64 ((n : Int) + 1)]).run Try.prog w = .ok (.slice (some ⟨w.heap.size, 0, none⟩) (n + (n + 1)) c) (w.drew.alloc (.cells (rowOf (es ++ List.replicate (c - n) zEnt)).toArray 49))) := by
    intro ty; have := hrun ty; simpa using this
  clear hrun
  unfold maxLen at hle
  go_enter Try.func19, Try.ntmps19
  go_wp2_with (at_builtin; refine Lib.wpList_append_run _ rfl _ _ _ _ rfl _ _ rfl rfl _ _ (hrun'.out _) ?_)
  go_ret
  exact ⟨c, rfl, by omega, by unfold maxLen; omega, rfl⟩

end Go.Proofs.Qxb6627852a
