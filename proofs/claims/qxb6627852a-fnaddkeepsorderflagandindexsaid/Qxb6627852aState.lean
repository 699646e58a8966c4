/-
  THE STATE OF A TABLE IN MEMORY, said of blocks; no function of the program in sight but its type numbers:
  42 tomlTable (4 cells: entries, unsorted, index, how) · 49 tomlEntry (7 cells: key, kind, line, text, bits, array, table) · 39 the index's map (keys 9, elements 21).
-/
import Derived.Test.Qxb6627852aRows
import Derived.WalkKit
import Derived.WalkSpells
import Derived.Maps.OwnSet
namespace Go.Proofs.Qxb6627852a
open Go.RowKit Go.Maps

/-! ### entries as lists of cells -/
structure Ent where
  key : ByteArray
  line : Int
  text : ByteArray

def entCells (e : Ent) : List Value := [.string e.key, .int .u8 0, .int .i32 e.line, .string e.text, .int .u64 0, .pointer none, .pointer none]
def zEnt : Ent := ⟨⟨#[]⟩, 0, ⟨#[]⟩⟩
def rowOf : List Ent → List Value
  | [] => []
  | e :: es => entCells e ++ rowOf es

theorem entCells_length (e : Ent) : (entCells e).length = 7 := rfl

theorem rowOf_length : ∀ es : List Ent, (rowOf es).length = es.length * 7
  | [] => rfl
  | e :: es => by simp only [rowOf, List.length_append, rowOf_length es, entCells_length, List.length_cons]; omega

theorem rowOf_append : ∀ a b : List Ent, rowOf (a ++ b) = rowOf a ++ rowOf b
  | [], b => rfl
  | e :: a, b => by simp only [List.cons_append, rowOf, rowOf_append a b, List.append_assoc]

theorem rowOf_get : ∀ (es : List Ent) (i j : Nat) (hi : i < es.length) (_ : j < 7), (rowOf es)[i * 7 + j]? = (entCells es[i])[j]?
  | [], _, _, hi, _ => by simp at hi
  | e :: es, 0, j, _, hj => by
    simp only [rowOf, Nat.zero_mul, Nat.zero_add, List.getElem_cons_zero]
    rw [List.getElem?_append_left (by rw [entCells_length]; exact hj)]
  | e :: es, i + 1, j, hi, hj => by
    simp only [rowOf]
    rw [List.getElem?_append_right (by rw [entCells_length]; omega), entCells_length, show (i + 1) * 7 + j - 7 = i * 7 + j by omega, rowOf_get es i j (by simpa using hi) hj]
    rfl

theorem rowOf_set : ∀ (es : List Ent) (i j : Nat) (v : Value) (e' : Ent) (hi : i < es.length) (_ : j < 7) (_ : (entCells es[i]).set j v = entCells e'), (rowOf es).set (i * 7 + j) v = rowOf (es.set i e')
  | [], _, _, _, _, hi, _, _ => by simp at hi
  | e :: es, 0, j, v, e', _, hj, h => by
    simp only [rowOf, Nat.zero_mul, Nat.zero_add, List.set_cons_zero]
    rw [List.set_append_left _ _ (by rw [entCells_length]; exact hj)]
    rw [show (e :: es)[0] = e from rfl] at h
    rw [h]
  | e :: es, i + 1, j, v, e', hi, hj, h => by
    simp only [rowOf, List.set_cons_succ]
    rw [List.set_append_right _ _ (by rw [entCells_length]; omega), entCells_length, show (i + 1) * 7 + j - 7 = i * 7 + j by omega]
    rw [rowOf_set es i j v e' (by simpa using hi) hj h]

/-! ### blocks -/
theorem heap_set_same (w : World) (b o : Nat) (v : Value) (c : Array Value) (t : TypeId) (f : Nat × Nat) (h : w.heap[b]? = some (.cells c t f)) :
    (w.setCell ⟨b, o, none⟩ v).heap[b]? = some (.cells (c.setIfInBounds o v) t f) := by
  simp [World.setCell, Array.getElem?_modify, h]

theorem heap_set_other (w : World) (b b' o : Nat) (v : Value) (h : b' ≠ b) : (w.setCell ⟨b, o, none⟩ v).heap[b']? = w.heap[b']? :=
  Below.heap_setCell w ⟨b, o, none⟩ v b' h

def TabAt (w : World) (tb : Nat) (sl : Value) (uns : Bool) (mv : Option Nat) : Prop :=
  w.heap[tb]? = some (.cells #[sl, .bool uns, .map mv, .int .u8 0] 42 (0, 0))

theorem cell_heap {w : World} {b : Nat} {c : Array Value} {t : TypeId} {f : Nat × Nat} (h : w.heap[b]? = some (.cells c t f)) (o : Nat) : w.cell? ⟨b, o, none⟩ = c[o]? := by
  simp [World.cell?, h]

theorem frozen_heap {w : World} {b : Nat} {c : Array Value} {t : TypeId} (h : w.heap[b]? = some (.cells c t (0, 0))) (o : Nat) : w.frozen? ⟨b, o, none⟩ = false := by
  simp [World.frozen?, h]

section
variable {w : World} {tb : Nat} {sl : Value} {uns : Bool} {mv : Option Nat}
theorem TabAt.c0 (h : TabAt w tb sl uns mv) : w.cell? ⟨tb, 0, none⟩ = some sl := by rw [cell_heap h]; rfl
theorem TabAt.c1 (h : TabAt w tb sl uns mv) : w.cell? ⟨tb, 1, none⟩ = some (.bool uns) := by rw [cell_heap h]; rfl
theorem TabAt.c2 (h : TabAt w tb sl uns mv) : w.cell? ⟨tb, 2, none⟩ = some (.map mv) := by rw [cell_heap h]; rfl
theorem TabAt.f (h : TabAt w tb sl uns mv) (o : Nat) : w.frozen? ⟨tb, o, none⟩ = false := frozen_heap h o
theorem TabAt.lt (h : TabAt w tb sl uns mv) : tb < w.heap.size := (Array.getElem?_eq_some_iff.1 h).1
theorem TabAt.set0 (h : TabAt w tb sl uns mv) (v : Value) : TabAt (w.setCell ⟨tb, 0, none⟩ v) tb v uns mv := by unfold TabAt; rw [heap_set_same _ _ _ _ _ _ _ h]; rfl
theorem TabAt.set1 (h : TabAt w tb sl uns mv) (b : Bool) : TabAt (w.setCell ⟨tb, 1, none⟩ (.bool b)) tb sl b mv := by unfold TabAt; rw [heap_set_same _ _ _ _ _ _ _ h]; rfl
theorem TabAt.set2 (h : TabAt w tb sl uns mv) (m : Option Nat) : TabAt (w.setCell ⟨tb, 2, none⟩ (.map m)) tb sl uns m := by unfold TabAt; rw [heap_set_same _ _ _ _ _ _ _ h]; rfl
theorem TabAt.keep (h : TabAt w tb sl uns mv) {w' : World} (hw : w'.heap[tb]? = w.heap[tb]?) : TabAt w' tb sl uns mv := by unfold TabAt; rw [hw]; exact h
end

def RowAt (w : World) (g : Nat) (es : List Ent) : Prop := w.heap[g]? = some (.cells (rowOf es).toArray 49 (0, 0))

section
variable {w : World} {g : Nat} {es : List Ent}
theorem RowAt.lt (h : RowAt w g es) : g < w.heap.size := (Array.getElem?_eq_some_iff.1 h).1
theorem RowAt.f (h : RowAt w g es) (o : Nat) : w.frozen? ⟨g, o, none⟩ = false := frozen_heap h o
theorem RowAt.keep (h : RowAt w g es) {w' : World} (hw : w'.heap[g]? = w.heap[g]?) : RowAt w' g es := by unfold RowAt; rw [hw]; exact h
theorem RowAt.cell (h : RowAt w g es) (i j : Nat) (hi : i < es.length) (hj : j < 7) : w.cell? ⟨g, i * 7 + j, none⟩ = (entCells es[i])[j]? := by
  rw [cell_heap h, List.getElem?_toArray, rowOf_get es i j hi hj]
theorem RowAt.set (h : RowAt w g es) (i j : Nat) (v : Value) (e' : Ent) (hi : i < es.length) (hj : j < 7) (he : (entCells es[i]).set j v = entCells e') : RowAt (w.setCell ⟨g, i * 7 + j, none⟩ v) g (es.set i e') := by
  unfold RowAt
  rw [heap_set_same _ _ _ _ _ _ _ h, List.setIfInBounds_toArray, rowOf_set es i j v e' hi hj he]
end

/-! ### the index -/
def idxFrom (D : DataW Unit) (n : Nat) : List ByteArray → DataW Unit
  | [] => D
  | s :: ks => idxFrom (D.put (.string s.data.toList) (.lit (.int .i32 n))) (n + 1) ks
def idxD (ks : List ByteArray) : DataW Unit := idxFrom (.map []) 0 ks

theorem idxFrom_snoc (s : ByteArray) : ∀ (ks : List ByteArray) (D : DataW Unit) (n : Nat), idxFrom D n (ks ++ [s]) = (idxFrom D n ks).put (.string s.data.toList) (.lit (.int .i32 ((n + ks.length : Nat) : Int)))
  | [], D, n => rfl
  | k :: ks, D, n => by
    simp only [List.cons_append, idxFrom, List.length_cons]
    rw [idxFrom_snoc s ks, show n + 1 + ks.length = n + (ks.length + 1) by omega]

theorem idxD_snoc (ks : List ByteArray) (s : ByteArray) : idxD (ks ++ [s]) = (idxD ks).put (.string s.data.toList) (.lit (.int .i32 (ks.length : Int))) := by
  unfold idxD; rw [idxFrom_snoc]; simp

/-! ### the table -/
def Sl (w : World) (tb : Nat) (es : List Ent) (sl : Value) : Prop :=
  (es = [] ∧ sl = .slice none 0 0) ∨
  ∃ g full z, sl = .slice (some ⟨g, 0, none⟩) es.length full.length ∧ tb < g ∧ RowAt w g full ∧ full.length ≤ maxLen ∧ full = es ++ List.replicate z zEnt
def Ix (w : World) (m n : Nat) (D : DataW Unit) : Prop := w.ownsMap Try.prog 9 (plainElem Try.prog 21) m n D
def Mp (w : World) (tb : Nat) (es : List Ent) (uns : Bool) (mv : Option Nat) : Prop :=
  (mv = none ∧ (es.length ≤ 8 ∨ uns = false)) ∨
  ∃ m, mv = some m ∧ tb < m ∧ 8 < es.length ∧ uns = true ∧ Ix w m es.length (idxD (es.map Ent.key))
/-- THE TABLE AT BLOCK tb HOLDS THE ENTRIES es. -/
def St (w : World) (tb : Nat) (es : List Ent) (uns : Bool) : Prop := ∃ sl mv, TabAt w tb sl uns mv ∧ Sl w tb es sl ∧ Mp w tb es uns mv

end Go.Proofs.Qxb6627852a
