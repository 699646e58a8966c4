/-
  (*tomlTable).add (function 18) AND ZZadd (7): the table gains one entry at its end; the flag and the index go along.
-/
import Derived.Test.Qxb6627852aLeaves
import Derived.Deep.DeepCutAuto
import Derived.Deep.RegionHeld3
import Derived.Deep.RegionWith
import Derived.Deep.CutBlock
namespace Go.Proofs.Qxb6627852a
open Go.RowKit Go.Maps

/-- Does key s lie below the last entry's key? -/
def descB (es : List Ent) (s : ByteArray) : Bool := match es.getLast? with
  | none => false
  | some e => Op.bytesLess s.toList e.key.toList

theorem Sl.last {w : World} {tb : Nat} {es : List Ent} {a : Option Addr} {n c : Nat} (h : Sl w tb es (.slice a n c)) (hpos : 0 < n) (s : ByteArray) :
    ∃ g last, a = some ⟨g, 0, none⟩ ∧ w.cell? ⟨g, (n - 1) * 7, none⟩ = some (.string last) ∧ descB es s = Op.bytesLess s.toList last.toList := by
  rcases h with ⟨rfl, h⟩ | ⟨g, full, z, h, hg, hr, hm, rfl⟩
  · injection h with h1 h2 h3; omega
  · injection h with h1 h2 h3
    have hne : es ≠ [] := by intro h0; subst h0; simp at h2; omega
    refine ⟨g, (es.getLast hne).key, h1, ?_, ?_⟩
    · have hc := hr.cell (n - 1) 0 (by simp; omega) (by omega)
      rw [Nat.add_zero] at hc
      rw [hc, List.getElem_append_left (by omega), List.getLast_eq_getElem]
      simp only [h2]
      rfl
    · unfold descB
      rw [List.getLast?_eq_some_getLast hne]

theorem Sl.len {w : World} {tb : Nat} {es : List Ent} {a : Option Addr} {n c : Nat} (h : Sl w tb es (.slice a n c)) : n = es.length ∧ n ≤ c ∧ c ≤ maxLen := by
  rcases h with ⟨rfl, h⟩ | ⟨g, full, z, h, hg, hr, hm, rfl⟩
  · injection h with h1 h2 h3; subst h2 h3; simp [maxLen]
  · injection h with h1 h2 h3
    subst h2 h3; simp at hm ⊢; omega

def PhA (w wx : World) (tb : Nat) (sl : Value) (uns : Bool) (mv : Option Nat) : Prop := TabAt wx tb sl uns mv ∧ w.grownBy wx (some tb)
def PhB (w wx : World) (tb : Nat) (es : List Ent) (uns : Bool) (mv : Option Nat) : Prop :=
  ∃ g full z, TabAt wx tb (.slice (some ⟨g, 0, none⟩) es.length full.length) uns mv ∧ tb < g ∧ RowAt wx g full ∧ full.length ≤ maxLen ∧ full = es ++ List.replicate (z + 1) zEnt ∧ w.grownBy wx (some tb)

theorem grownBy_refl (w : World) (r : Option Nat) : w.grownBy w r := ⟨rfl, rfl, rfl, Nat.le_refl _, fun _ _ _ => rfl⟩
theorem grownBy_set (w : World) (tb o : Nat) (v : Value) : w.grownBy (w.setCell ⟨tb, o, none⟩ v) (some tb) :=
  ⟨rfl, rfl, rfl, by simp [World.setCell], fun k _ hk => heap_set_other w tb k o v (fun e => hk (by rw [e]))⟩

theorem grownBy_more {w X Y : World} {r : Option Nat} (h : w.grownBy X r) (h2 : X.grownBy Y r) : w.grownBy Y r :=
  ⟨h2.os.trans h.os, h2.tape.trans h.tape, h2.output.trans h.output, Nat.le_trans h.size h2.size, fun k hk hr => (h2.block k (Nat.lt_of_lt_of_le hk h.size) hr).trans (h.block k hk hr)⟩

theorem PhB.alike {w X Y : World} {tb : Nat} {es : List Ent} {uns : Bool} {mv : Option Nat} (h : PhB w X tb es uns mv) (hh : Y.heap = X.heap) (ho : Y.os = X.os) (ht : Y.tape = X.tape) (hp : Y.output = X.output) : PhB w Y tb es uns mv := by
  obtain ⟨g, full, z, h1, h2, h3, h4, h5, h6⟩ := h
  exact ⟨g, full, z, by unfold TabAt; rw [hh]; exact h1, h2, by unfold RowAt; rw [hh]; exact h3, h4, h5, ⟨ho.trans h6.os, ht.trans h6.tape, hp.trans h6.output, by rw [hh]; exact h6.size, fun k a b => by rw [hh]; exact h6.block k a b⟩⟩

theorem phB_grow {w wc : World} {tb : Nat} {es : List Ent} {sl : Value} {uns : Bool} {mv : Option Nat} (hA : PhA w wc tb sl uns mv) {n c : Nat} (hn : n = es.length) (h1 : n + 1 ≤ c) (h2 : c ≤ maxLen) :
    PhB w ((wc.alloc (.cells (rowOf (es ++ List.replicate (c - n) zEnt)).toArray 49)).setCell ⟨tb, 0, none⟩ (.slice (some ⟨wc.heap.size, 0, none⟩) n c)) tb es uns mv := by
  have hlt := hA.1.lt
  have hl : (es ++ List.replicate (c - n) zEnt).length = c := by simp; omega
  refine ⟨wc.heap.size, es ++ List.replicate (c - n) zEnt, c - n - 1, ?_, hlt, ?_, by rw [hl]; exact h2, ?_, ?_⟩
  · rw [hl, ← hn]
    refine TabAt.set0 (sl := sl) (hA.1.keep ?_) _
    exact Below.heap_alloc _ _ _ hlt
  · unfold RowAt
    rw [heap_set_other _ _ _ _ _ (by omega)]
    exact heap_alloc_new wc _
  · rw [show c - n - 1 + 1 = c - n by omega]
  · exact grownBy_more (grownBy_more hA.2 (World.grownBy_alloc wc _ _)) (grownBy_set _ _ _ _)

theorem phB_room {w wc : World} {tb : Nat} {es : List Ent} {a : Option Addr} {n c : Nat} {uns : Bool} {mv : Option Nat} (hA : PhA w wc tb (.slice a n c) uns mv) (hS : Sl w tb es (.slice a n c)) (hnc : n < c) : PhB w wc tb es uns mv := by
  rcases hS with ⟨rfl, h⟩ | ⟨g, full, z, h, hg, hr, hm, hf⟩
  · injection h with h1 h2 h3; omega
  · injection h with h1 h2 h3
    subst h1 h2 h3
    have hl : full.length = es.length + z := by rw [hf]; simp
    refine ⟨g, full, z - 1, hA.1, hg, hr.keep (hA.2.block g hr.lt ?_), hm, ?_, hA.2⟩
    · intro e; injection e with e; omega
    · rw [show z - 1 + 1 = z by omega]; exact hf

theorem grow_pre {w wc : World} {tb : Nat} {es : List Ent} {a : Option Addr} {n : Nat} {uns : Bool} {mv : Option Nat} (hA : PhA w wc tb (.slice a n n) uns mv) (hS : Sl w tb es (.slice a n n)) (k : Nat) :
    (a = none ∧ n = 0) ∨ ∃ g, a = some ⟨g, 0, none⟩ ∧ RowAt (wc.drewN k) g es := by
  rcases hS with ⟨rfl, h⟩ | ⟨g, full, z, h, hg, hr, hm, hf⟩
  · injection h with h1 h2 h3; exact .inl ⟨h1, h2⟩
  · injection h with h1 h2 h3
    have hl : full.length = es.length + z := by rw [hf]; simp
    obtain rfl : z = 0 := by omega
    rw [List.replicate_zero, List.append_nil] at hf
    subst hf
    exact .inr ⟨g, h1, hr.keep (hA.2.block g hr.lt (by intro e; injection e with e; omega))⟩

theorem grow_tab {w wc : World} {tb : Nat} {es : List Ent} {a : Option Addr} {n : Nat} {uns : Bool} {mv : Option Nat} (hA : PhA w wc tb (.slice a n n) uns mv) (hS : Sl w tb es (.slice a n n)) (hn : n ≤ 4096) (k : Nat) :
    Calls Try.prog 19 #[.slice a n n, .int .i64 (n + 1)] (wc.drewN k) fun e w' => ∃ c, e = .returned (.slice (some ⟨wc.heap.size, 0, none⟩) n c) ∧ w'.cell? ⟨tb, 0, none⟩ = some (.slice a n n) ∧ w'.frozen? ⟨tb, 0, none⟩ = false ∧
      Hid (PhB w (w'.setCell ⟨tb, 0, none⟩ (.slice (some ⟨wc.heap.size, 0, none⟩) n c)) tb es uns mv) := by
  have hlt := hA.1.lt
  refine (grow_any (wc.drewN k) a n es hS.len.1.symm hn (grow_pre hA hS k)).mono ?_
  rintro e w' ⟨c, rfl, h1, h2, rfl⟩
  refine ⟨c, rfl, ?_, ?_, ?_⟩
  · exact (World.cell?_alloc_lt _ _ _ hlt).trans hA.1.c0
  · exact (World.frozen?_of_block (w := wc) (Below.heap_alloc (wc.drewN k).drew _ tb hlt)).trans (hA.1.f 0)
  · exact (phB_grow hA hS.len.1 h1 h2).alike rfl rfl rfl rfl

/-- The table's row lies at block g. -/
def PhC (w wx : World) (tb g : Nat) (es : List Ent) (uns : Bool) (mv : Option Nat) : Prop :=
  ∃ full z, TabAt wx tb (.slice (some ⟨g, 0, none⟩) es.length full.length) uns mv ∧ tb < g ∧ RowAt wx g full ∧ full.length ≤ maxLen ∧ full = es ++ List.replicate z zEnt ∧ Below tb w wx ∧
    ∀ m n D, m ≠ tb → Ix w m n D → Ix wx m n D
/-- THE TABLE AT BLOCK tb, ITS ROW AT BLOCK g. -/
def StG (w : World) (tb g : Nat) (es : List Ent) (uns : Bool) : Prop :=
  ∃ full z mv, TabAt w tb (.slice (some ⟨g, 0, none⟩) es.length full.length) uns mv ∧ tb < g ∧ RowAt w g full ∧ full.length ≤ maxLen ∧ full = es ++ List.replicate z zEnt ∧ Mp w tb es uns mv

theorem PhC.alike {w X Y : World} {tb g : Nat} {es : List Ent} {uns : Bool} {mv : Option Nat} (h : PhC w X tb g es uns mv) (hh : Y.heap = X.heap) (ho : Y.os = X.os) (ht : Y.tape = X.tape) (hp : Y.output = X.output) : PhC w Y tb g es uns mv := by
  obtain ⟨full, z, h1, h2, h3, h4, h5, h6, h7⟩ := h
  refine ⟨full, z, by unfold TabAt; rw [hh]; exact h1, h2, by unfold RowAt; rw [hh]; exact h3, h4, h5, ⟨ho.trans h6.os, ht.trans h6.tape, hp.trans h6.output, by rw [hh]; exact h6.size, fun k a => by rw [hh]; exact h6.block k a⟩, ?_⟩
  intro m n D hm hi
  have := h7 m n D hm hi
  unfold Ix World.ownsMap at this ⊢
  rw [hh]; exact this

theorem Below.of_grownBy {w X : World} {tb : Nat} (h : w.grownBy X (some tb)) (hb : tb ≤ w.heap.size) : Below tb w X :=
  ⟨h.os, h.tape, h.output, h.size, fun k hk => h.block k (by omega) (by intro e; injection e with e; omega)⟩

theorem Ix.set {w : World} {m n : Nat} {D : DataW Unit} (h : Ix w m n D) (b o : Nat) (v : Value) (c : Array Value) (t : TypeId) (f : Nat × Nat) (hb : w.heap[b]? = some (.cells c t f)) : Ix (w.setCell ⟨b, o, none⟩ v) m n D := by
  have hne : m ≠ b := by
    intro e; subst e
    obtain ⟨es, ck, h1, _⟩ := h
    rw [hb] at h1; injection h1 with h1; cases h1
  exact World.ownsMap.kept h (grownBy_set w b o v) (by intro e; injection e with e; exact hne e)

def newEnt (s : ByteArray) : Ent := ⟨s, 0, ⟨#[]⟩⟩

theorem phC_mk {w wc : World} {tb g : Nat} {es : List Ent} {full : List Ent} {z : Nat} {uns : Bool} {mv : Option Nat} (s : ByteArray) (ht : TabAt wc tb (.slice (some ⟨g, 0, none⟩) es.length full.length) uns mv) (hg : tb < g) (hr : RowAt wc g full) (hm : full.length ≤ maxLen)
    (hf : full = es ++ List.replicate (z + 1) zEnt) (hgr : w.grownBy wc (some tb)) (hw : tb ≤ w.heap.size) :
    PhC w ((wc.setCell ⟨tb, 0, none⟩ (.slice (some ⟨g, 0, none⟩) (es.length + 1) full.length)).setCell ⟨g, es.length * 7, none⟩ (.string s)) tb g (es ++ [newEnt s]) uns mv := by
  have hlen : full.length = es.length + (z + 1) := by rw [hf]; simp
  have hr1 : RowAt (wc.setCell ⟨tb, 0, none⟩ (.slice (some ⟨g, 0, none⟩) (es.length + 1) full.length)) g full := hr.keep (heap_set_other _ _ _ _ _ (by omega))
  have hgz : full[es.length]'(by omega) = zEnt := by simp [hf]
  refine ⟨full.set es.length (newEnt s), z, ?_, hg, ?_, by simpa using hm, ?_, ?_, ?_⟩
  · refine TabAt.keep ?_ (heap_set_other _ _ _ _ _ (by omega))
    simpa using ht.set0 (.slice (some ⟨g, 0, none⟩) (es.length + 1) full.length)
  · exact hr1.set es.length 0 (.string s) (newEnt s) (by omega) (by omega) (by rw [hgz]; rfl)
  · rw [hf, List.set_append_right _ _ (Nat.le_refl _)]
    simp [List.replicate_succ]
  · exact ((Below.of_grownBy hgr hw).setCell (p := ⟨tb, 0, none⟩) (Nat.le_refl _) _).setCell (p := ⟨g, es.length * 7, none⟩) (Nat.le_of_lt hg) _
  · intro m n D hmt hi
    have h1 : Ix wc m n D := World.ownsMap.kept hi hgr (by intro e; injection e with e; exact hmt e)
    exact (h1.set tb 0 _ _ _ _ ht).set g _ _ _ _ _ hr1

theorem row_not_map {w : World} {g m n : Nat} {es : List Ent} {D : DataW Unit} (hr : RowAt w g es) (h : Ix w m n D) : g ≠ m := by
  intro e; subst e
  obtain ⟨l, ck, h1, _⟩ := h
  unfold RowAt at hr
  rw [hr] at h1; injection h1 with h1; cases h1

theorem i32_wf (n : Nat) (h : n ≤ 5000) : (Lit.int .i32 (n : Int)).wf = true := by
  have h1 : IntKind.i32.min = -2147483648 := by decide
  have h2 : IntKind.i32.max = 2147483647 := by decide
  simp only [Lit.wf, h1, h2, Bool.and_eq_true, decide_eq_true_eq]
  omega

theorem run_makeMap39 (x : Int) (w : World) : (Instr.makeMap 39 (some (.int .i64 x))).run Try.prog w = .ok (.map (some w.heap.size)) (w.alloc (.map #[] 0)) := by
  simp [Instr.makeMap, run_underlying Try.underlying39, asInt, asIntOf, newObj]
  rfl

theorem fin_update {w wc w1 : World} {tb g m n : Nat} {es : List Ent} {s : ByteArray} (hC : PhC w wc tb g (es ++ [newEnt s]) true (some m)) (hn : n = es.length) (hmt : tb < m) (h8 : 8 < es.length) (hi : Ix wc m n (idxD (es.map Ent.key)))
    (h1 : Ix w1 m (n + 1) ((idxD (es.map Ent.key)).put (.string s.data.toList) (.lit (.int .i32 (n : Int))))) (hg : wc.grownBy w1 (some m)) : StG w1 tb g (es ++ [newEnt s]) true ∧ Below tb w w1 := by
  obtain ⟨full, z, ht, hlt, hr, hm, hf, hbl, _⟩ := hC
  have hgm := row_not_map hr hi
  refine ⟨⟨full, z, some m, ht.keep (hg.block tb ht.lt ?_), hlt, hr.keep (hg.block g hr.lt ?_), hm, hf, .inr ⟨m, rfl, hmt, by simp; omega, rfl, ?_⟩⟩, hbl.grown hg (Nat.le_of_lt ht.lt) ?_⟩
  · intro e; injection e with e; omega
  · intro e; injection e with e; exact hgm e
  · have e1 : (es ++ [newEnt s]).map Ent.key = es.map Ent.key ++ [s] := by simp [newEnt]
    rw [e1, idxD_snoc, List.length_append, List.length_singleton, List.length_map, ← hn]
    exact h1
  · intro k e; injection e with e; omega

theorem fin_none {w wc : World} {tb g : Nat} {es : List Ent} {u : Bool} (hC : PhC w wc tb g es u none) (h8 : es.length ≤ 8 ∨ u = false) : StG wc tb g es u ∧ Below tb w wc := by
  obtain ⟨full, z, ht, hlt, hr, hm, hf, hbl, _⟩ := hC
  exact ⟨⟨full, z, none, ht, hlt, hr, hm, hf, .inl ⟨rfl, h8⟩⟩, hbl⟩

theorem i32_wrap (n : Nat) (h : n ≤ 5000) : IntKind.i32.wrap (n : Int) = (n : Int) := by
  unfold IntKind.wrap
  simp [IntKind.bits, IntKind.signed]
  omega

/-- The index is being built: the first k keys lie in the map at block mb. -/
def BInv (w wr : World) (tb g mb k : Nat) (es : List Ent) : Prop :=
  ∃ full z, TabAt wr tb (.slice (some ⟨g, 0, none⟩) es.length full.length) true (some mb) ∧ tb < g ∧ RowAt wr g full ∧ full.length ≤ maxLen ∧ full = es ++ List.replicate z zEnt ∧ Below tb w wr ∧ tb < mb ∧
    Ix wr mb k (idxD ((es.take k).map Ent.key))

theorem BInv.start {w wc : World} {tb g : Nat} {es : List Ent} (hC : PhC w wc tb g es true none) : BInv w ((wc.setCell ⟨tb, 2, none⟩ (.map (some wc.heap.size))).alloc (.map #[] 0)) tb g wc.heap.size 0 es := by
  obtain ⟨full, z, ht, hlt, hr, hm, hf, hbl, _⟩ := hC
  have hsz : (wc.setCell ⟨tb, 2, none⟩ (.map (some wc.heap.size))).heap.size = wc.heap.size := by simp [World.setCell]
  refine ⟨full, z, ?_, hlt, ?_, hm, hf, ?_, ht.lt, ?_⟩
  · exact (ht.set2 (some wc.heap.size)).keep (Below.heap_alloc _ _ _ (by rw [hsz]; exact ht.lt))
  · exact (hr.keep (heap_set_other _ _ _ _ _ (by omega))).keep (Below.heap_alloc _ _ _ (by rw [hsz]; exact hr.lt))
  · exact (hbl.setCell (p := ⟨tb, 2, none⟩) (Nat.le_refl _) _).alloc (by rw [hsz]; exact Nat.le_of_lt ht.lt) _
  · have := World.ownsMap_made (H := Unit) (wc.setCell ⟨tb, 2, none⟩ (.map (some wc.heap.size))) Try.prog 9 (plainElem Try.prog 21)
    rw [hsz] at this
    exact this

theorem BInv.step {w wr w1 : World} {tb g mb k : Nat} {es : List Ent} {o : Obj} (h : BInv w wr tb g mb k es) (hk : k < es.length) (h1 : Ix w1 mb (k + 1) ((idxD ((es.take k).map Ent.key)).put (.string (es[k]).key.data.toList) (.lit (.int .i32 (k : Int))))) (hg : (wr.alloc o).grownBy w1 (some mb)) : BInv w w1 tb g mb (k + 1) es := by
  obtain ⟨full, z, ht, hlt, hr, hm, hf, hbl, hmb, hi⟩ := h
  have hgm := row_not_map hr hi
  have hsz : (wr.alloc o).heap.size = wr.heap.size + 1 := by simp
  refine ⟨full, z, (ht.keep (Below.heap_alloc _ o _ ht.lt)).keep (hg.block tb (by have := ht.lt; omega) ?_), hlt, (hr.keep (Below.heap_alloc _ o _ hr.lt)).keep (hg.block g (by have := hr.lt; omega) ?_), hm, hf, (hbl.alloc (Nat.le_of_lt ht.lt) o).grown hg (by have := ht.lt; omega) ?_, hmb, ?_⟩
  · intro e; injection e with e; omega
  · intro e; injection e with e; exact hgm e
  · intro j e; injection e with e; omega
  · rw [List.take_succ_eq_append_getElem hk, List.map_append, List.map_singleton, idxD_snoc, List.length_map, List.length_take, Nat.min_eq_left (by omega)]
    exact h1

theorem BInv.fin {w wr : World} {tb g mb : Nat} {es : List Ent} (h : BInv w wr tb g mb es.length es) (h8 : 8 < es.length) : StG wr tb g es true ∧ Below tb w wr := by
  obtain ⟨full, z, ht, hlt, hr, hm, hf, hbl, hmb, hi⟩ := h
  rw [List.take_length] at hi
  exact ⟨⟨full, z, some mb, ht, hlt, hr, hm, hf, .inr ⟨mb, rfl, hmb, h8, rfl, hi⟩⟩, hbl⟩

theorem BInv.update {w wr : World} {tb g mb k : Nat} {es : List Ent} (h : BInv w wr tb g mb k es) (o : Obj) (hk : k ≤ 5000) {key : ByteArray} (hs : key.size ≤ maxLen) :
    ∃ w1, (Instr.mapUpdate 39 (.map (some mb)) (.string key) (.int .i32 (k : Int))).run Try.prog (wr.alloc o).drew = .ok () w1 ∧ Ix w1 mb (k + 1) ((idxD ((es.take k).map Ent.key)).put (.string key.data.toList) (.lit (.int .i32 (k : Int)))) ∧ (wr.alloc o).grownBy w1 (some mb) := by
  obtain ⟨full, z, ht, hlt, hr, hm, hf, hbl, hmb, hi⟩ := h
  have h2 : (wr.alloc o).drew.ownsMap Try.prog 9 (plainElem Try.prog 21) mb k (idxD ((es.take k).map Ent.key)) := (World.ownsMap.alloc hi o).drew
  obtain ⟨w1, h3, h4, h5⟩ := World.ownsMap.update h2 Try.law9 Try.underlying39 (by unfold maxLen; omega) (WideMaps.keyOf_string_mk Try.underlying9 hs) (plainElem_int Try.underlying21 (i32_wf k hk))
  exact ⟨w1, h3, h4, ⟨h5.os, h5.tape, h5.output, h5.size, h5.block⟩⟩

/-- The cells of entry k. -/
theorem BInv.cells {w wr : World} {tb g mb k : Nat} {es : List Ent} (h : BInv w wr tb g mb k es) (hk : k < es.length) (j : Nat) (hj : j < 7) : wr.cell? ⟨g, k * 7 + j, none⟩ = (entCells es[k])[j]? := by
  obtain ⟨full, z, ht, hlt, hr, hm, hf, hbl, hmb, hi⟩ := h
  have hl : full.length = es.length + z := by rw [hf]; simp
  rw [hr.cell k j (by omega) hj]
  have : full[k]'(by omega) = es[k] := by simp [hf, List.getElem_append_left hk]
  rw [this]

set_option maxRecDepth 100000 in
set_option maxHeartbeats 400000 in
theorem add_any (w : World) (tb : Nat) (es : List Ent) (s : ByteArray) (uns : Bool) (mv : Option Nat) (n c : Nat) (a : Option Addr) (hs : s.size ≤ maxLen) (hn : es.length ≤ 4095) (hks : ∀ e ∈ es, e.key.size ≤ maxLen)
   (ht : TabAt w tb (.slice a n c) uns mv) (hsl : Sl w tb es (.slice a n c)) (hmp : Mp w tb es uns mv) :
    Calls Try.prog 18 #[.pointer (some ⟨tb, 0, none⟩), .string s] w fun e w' => ∃ g, e = .returned (.pointer (some ⟨g, n * 7 + 1, none⟩)) ∧ StG w' tb g (es ++ [newEnt s]) (uns || descB es s) ∧ Below tb w w' := by
  have HM : Hid (Mp w tb es uns mv) := hmp
  have HK : Hid (∀ e ∈ es ++ [newEnt s], e.key.size ≤ maxLen) := by
    intro e he
    rcases List.mem_append.1 he with h | h
    · exact hks e h
    · simp at h; subst h; exact hs
  clear hmp hks
  have c0 := ht.c0
  have hle := hsl.len
  have hnI : (n : Int) ≤ 4095 := by omega
  have hcI : (c : Int) ≤ 9223372036854775807 := by have := hle.2.2; unfold maxLen at this; omega
  have HT : Hid (TabAt w tb (.slice a n c) uns mv) := ht
  have HS : Hid (Sl w tb es (.slice a n c)) := hsl
  have HL : Hid (n = es.length ∧ n ≤ c ∧ c ≤ maxLen) := hle
  clear ht hsl hle
  go_enter Try.func18, Try.ntmps18
  go_upto_region 2 with fail
  go_cut [29] from 10 to 29 (fun s29 wx => s29 = .bool (descB es s) ∧ w = wx)
  case first => 
    by_cases hpos : 0 < n
    · obtain ⟨g, last, rfl, k0, hd⟩ := HS.out.last hpos s
      have hd0 : decide ((0 : Int) < (n : Int)) = true := decide_eq_true (by omega)
      have HD : Hid (descB es s = Op.bytesLess s.toList last.toList) := hd
      clear hd
      go_wp2_with fail
      go_meet
      exact ⟨by rw [HD.out], rfl⟩
    · have hd0 : decide ((0 : Int) < (n : Int)) = false := decide_eq_false (by omega)
      have he : es = [] := List.length_eq_zero_iff.1 (by have := HL.out.1; omega)
      go_wp2_with fail
      go_meet
      exact ⟨by rw [he]; rfl, rfl⟩
  case rest =>
    obtain ⟨rfl, rfl⟩ := hcut
    go_upto_if 29 with fail
    generalize hd : descB es s = d
    have HD : Hid (descB es s = d) := hd
    clear hd
    go_cut [] from 10 to 32 (fun wx => PhA w wx tb (.slice a n c) (uns || d) mv)
    case first =>
      have f1 := HT.out.f 1
      have c1 := HT.out.c1
      cases d
      · go_wp2_with fail
        go_meet
        exact ⟨by simpa using HT.out, grownBy_refl _ _⟩
      · go_wp2_with fail
        go_meet
        exact ⟨by simpa using HT.out.set1 true, grownBy_set _ _ _ _⟩
    case rest =>
      clear c0
      have c0 := hcut.1.c0
      have HA : Hid (PhA w wc tb (.slice a n c) (uns || d) mv) := hcut
      clear hcut
      go_upto_region 4 with fail
      go_quiet (fail)
      go_upto_if 43 with fail
      go_cut [] from 10 to 57 (fun wx => PhB w wx tb es (uns || d) mv)
      case first =>
        have htb : tb < wc.heap.size := HA.out.1.lt
        by_cases hnc : n = c
        · subst hnc
          have f0 := HA.out.1.f 0
          have hw1 : IntKind.i64.wrap ((n : Int) + 1) = (n : Int) + 1 := by rw [IntKind.wrap_i64]; omega
          go_wp2_with fail
          have hG : Hid (_) := grow_tab HA.out HS.out (by omega)
          go_region_with (go_at_call 19; refine (hG.out _).mono ?_; rintro e w' ⟨c', rfl, c0', f0', HB⟩)
          all_goals (go_wp2_with fail; go_meet; exact HB.out.alike rfl rfl rfl rfl)
        · have hb : ((n : Int) == (c : Int)) = false := by simp; omega
          go_wp2_with fail
          go_meet
          exact (phB_room HA.out HS.out (by have := HL.out.2.1; omega)).alike rfl rfl rfl rfl
      case rest =>
        clear c0
        obtain ⟨g, full, z, ht, hg, hr, hm, hf, hgr⟩ := hcut
        have hn' : n = es.length := HL.out.1
        rw [← hn'] at ht
        have c0 := ht.c0
        have f0 := ht.f 0
        have hne : ¬ g = tb := by omega
        have hne' : ¬ tb = g := by omega
        have hlen : full.length = es.length + (z + 1) := by rw [hf]; simp
        have kg : wc.cell? ⟨g, n * 7, none⟩ = some (.string ⟨#[]⟩) := by
          have hc := hr.cell n 0 (by omega) (by omega)
          rw [Nat.add_zero] at hc
          rw [hc]
          have : full[n]'(by omega) = zEnt := by simp [hf, hn']
          rw [this]; rfl
        have fg := hr.f (n * 7)
        have HC : Hid (PhC w ((wc.setCell ⟨tb, 0, none⟩ (.slice (some ⟨g, 0, none⟩) (n + 1) full.length)).setCell ⟨g, n * 7, none⟩ (.string s)) tb g (es ++ [newEnt s]) (uns || d) mv) := by
          have hwt : tb ≤ w.heap.size := Nat.le_of_lt HT.out.lt
          rw [hn'] at ht ⊢
          exact phC_mk s ht hg hr hm hf hgr hwt
        have hcap : n < full.length := by omega
        clear ht hr hm hf hgr hlen hn'
        have hw1 : IntKind.i64.wrap ((n : Int) + 1) = (n : Int) + 1 := by rw [IntKind.wrap_i64]; omega
        generalize full.length = cp at *
        go_wp2_with fail
        go_region
        go_wp2_with fail
        go_quiet (fail)
        go_upto_region 9 with fail
        go_cut [6, 7] from 10 to 91 (fun s6 s7 wx => s6 = .pointer (some ⟨g, n * 7, none⟩) ∧ s7 = .int .i64 ((n : Int) + 1) ∧ PhC w wx tb g (es ++ [newEnt s]) (uns || d) mv)
        case first =>
          go_wp2_with fail
          go_meet
          exact ⟨rfl, rfl, HC.out.alike rfl rfl rfl rfl⟩
        case rest =>
          clear c0 f0 kg fg HC hcap hw1
          obtain ⟨rfl, rfl, hC⟩ := hcut
          have HC : Hid (PhC w wc tb g (es ++ [newEnt s]) (uns || d) mv) := hC
          clear hC
          go_upto_block 0 with fail
          go_cut [] from 92 to 139 (fun wx => StG wx tb g (es ++ [newEnt s]) (uns || d) ∧ Below tb w wx)
          case first =>
            obtain ⟨full, z, ht, _, hr, hm, hf, hbl, hix⟩ := HC.out
            rw [List.length_append, List.length_singleton, ← HL.out.1] at ht
            have c0 := ht.c0
            have c1 := ht.c1
            have c2 := ht.c2
            have f2 := ht.f 2
            have hixm := hix
            clear ht hr hm hf hbl hix
            rcases HM.out with ⟨rfl, h8⟩ | ⟨m, rfl, hmt, h8, rfl, hown⟩
            · clear hixm
              have hnm := fun w => run_neq_map_nil (P := Try.prog) w 39 9 21 none Try.underlying39
              generalize (uns || d) = u at *
              by_cases h9 : 8 < (n : Int) + 1
              · have hd9 : decide (8 < (n : Int) + 1) = true := decide_eq_true h9
                cases u
                · go_wp2_with fail
                  go_meet
                  exact fin_none HC.out (.inr rfl)
                · have hmm := run_makeMap39
                  have htb : tb < wc.heap.size := World.block_lt_of_cell? _ _ c2
                  go_upto_block 1 with fail
                  have hB := BInv.start HC.out
                  generalize ((wc.setCell ⟨tb, 2, none⟩ (.map (some wc.heap.size))).alloc (.map #[] 0)) = w2 at hB ⊢
                  have HB : Hid (BInv w w2 tb g wc.heap.size 0 (es ++ [newEnt s])) := hB
                  clear hB c0 c1 c2 f2 htb hmm
                  generalize wc.heap.size = mb at *
                  have hlen : (es ++ [newEnt s]).length = n + 1 := by have := HL.out.1; simp; omega
                  generalize (es ++ [newEnt s]) = es' at *
                  go_wp2_with fail
                  go_loopw [126] (fun i wr => ∃ k : Nat, k ≤ n + 1 ∧ i = .int .i64 k ∧ Hid (BInv w wr tb g mb k es')) (fun i _ => n + 1 - (intOf i).toNat)
                  case atStart => exact ⟨0, Nat.zero_le _, rfl, HB.out⟩
                  case round =>
                    obtain ⟨k, hk, rfl, HI⟩ := hrel
                    by_cases hlt : k < n + 1
                    · have hlt' : k < es'.length := by omega
                      have e0 := HI.out.cells hlt' 0 (by omega)
                      have e1 := HI.out.cells hlt' 1 (by omega)
                      have e2 := HI.out.cells hlt' 2 (by omega)
                      have e3 := HI.out.cells hlt' 3 (by omega)
                      have e4 := HI.out.cells hlt' 4 (by omega)
                      have e5 := HI.out.cells hlt' 5 (by omega)
                      have e6 := HI.out.cells hlt' 6 (by omega)
                      obtain ⟨ent, hent⟩ : ∃ ent, ent = es'[k] := ⟨_, rfl⟩
                      rw [← hent] at e0 e1 e2 e3 e4 e5 e6
                      simp only [entCells, List.getElem?_cons_zero, List.getElem?_cons_succ, Nat.add_zero] at e0 e1 e2 e3 e4 e5 e6
                      have HE : Hid (ent = es'[k]) := hent
                      clear hent
                      have c2 : wr.cell? ⟨tb, 2, none⟩ = some (.map (some mb)) := by obtain ⟨full, z, ht, _⟩ := HI.out; exact ht.c2
                      have htb : tb < wr.heap.size := World.block_lt_of_cell? _ _ c2
                      have hgs : g < wr.heap.size := World.block_lt_of_cell? _ _ e0
                      have hwk : IntKind.i32.wrap (k : Int) = (k : Int) := i32_wrap k (by omega)
                      have hkey : ent.key.size ≤ maxLen := by rw [HE.out]; exact HK.out _ (List.getElem_mem _)
                      obtain ⟨w1, hrun, h1, hg1⟩ := BInv.update HI.out (.cells #[.string ent.key, .int .u8 0, .int .i32 ent.line, .string ent.text, .int .u64 0, .pointer none, .pointer none] 49) (by omega) hkey
                      have H1 : Hid (BInv w w1 tb g mb (k + 1) es') := HI.out.step hlt' (by rw [← HE.out]; exact h1) hg1
                      clear h1 hg1 hkey
                      go_wp2_with fail
                      go_region
                      go_wp2_with fail
                      go_roundw
                      case rel => exact ⟨k + 1, by omega, by go_num, H1⟩
                      case measure => simp [intOf]; omega
                    · go_wp2_with fail
                      go_meet
                      have hke : k = es'.length := by omega
                      rw [hke] at HI
                      exact HI.out.fin (by omega)
              · have hd9 : decide (8 < (n : Int) + 1) = false := decide_eq_false h9
                go_wp2_with fail
                go_meet
                exact fin_none HC.out (.inl (by have := HL.out.1; simp; omega))
            · have hiw : Ix wc m n (idxD (es.map Ent.key)) := by have := HL.out.1; rw [this]; exact hixm m _ _ (by omega) hown
              have hown' : Hid (Ix wc m n (idxD (es.map Ent.key))) := hiw
              clear hown hiw hixm
              have hnm := fun w => run_neq_map_nil (P := Try.prog) w 39 9 21 (some m) Try.underlying39
              have hwf := i32_wf n (by omega)
              go_wp2_with (at_mapUpdate; refine wpList_mapUpdate_own _ rfl _ _ _ 39 rfl 9 21 Try.law9 Try.underlying39 (plainElem Try.prog 21) m n (idxD (es.map Ent.key)) rfl hown'.out (by unfold maxLen; omega) _ (.int .i32 (n : Int)) _ rfl ?hv (WideMaps.keyOf_string_mk Try.underlying9 hs) (.lit (.int .i32 (n : Int))) [] (plainElem_int Try.underlying21 hwf) ?_)
              case hv => go_simp
              intro w1 hown1 hgrow1
              have HO : Hid (Ix w1 m (n + 1) ((idxD (es.map Ent.key)).put (.string s.data.toList) (.lit (.int .i32 (n : Int))))) := hown1
              clear hown1
              go_wp2_with fail
              go_meet
              exact fin_update HC.out HL.out.1 hmt h8 hown'.out HO.out hgrow1
          case rest =>
            obtain ⟨hst, hbl⟩ := hcut
            have HST : Hid (StG wc tb g (es ++ [newEnt s]) (uns || d)) := hst
            clear hst
            go_wp2_with fail
            go_ret
            exact ⟨g, rfl, by rw [HD.out]; exact HST.out, hbl⟩
end Go.Proofs.Qxb6627852a
