/-
  THE ENTRIES THAT THE FIRST LAW FILLS IN; the table's state read and filled, no function of the program in sight.
-/
import Derived.Test.Qxb6627852aZz
namespace Go.Proofs.Qxb6627852a
open Go.RowKit Go.Maps

/-! ### the entries that the law fills in -/
def filledFrom (n : Nat) : List ByteArray → List Ent
  | [] => []
  | s :: ks => ⟨s, (n : Int) + 1, s⟩ :: filledFrom (n + 1) ks
def filled (ks : List ByteArray) : List Ent := filledFrom 0 ks
theorem filledFrom_length : ∀ (ks : List ByteArray) (n : Nat), (filledFrom n ks).length = ks.length
  | [], _ => rfl
  | _ :: ks, n => by simp [filledFrom, filledFrom_length ks]
theorem filled_length (ks : List ByteArray) : (filled ks).length = ks.length := filledFrom_length ks 0
theorem filledFrom_snoc (s : ByteArray) : ∀ (ks : List ByteArray) (n : Nat), filledFrom n (ks ++ [s]) = filledFrom n ks ++ [⟨s, ((n + ks.length : Nat) : Int) + 1, s⟩]
  | [], n => rfl
  | k :: ks, n => by
    simp only [List.cons_append, filledFrom, List.length_cons]
    rw [filledFrom_snoc s ks, show n + 1 + ks.length = n + (ks.length + 1) by omega]
theorem filled_take_succ (ks : List ByteArray) (k : Nat) (h : k < ks.length) : filled (ks.take (k + 1)) = filled (ks.take k) ++ [⟨ks[k], (k : Int) + 1, ks[k]⟩] := by
  unfold filled
  rw [List.take_succ_eq_append_getElem h, filledFrom_snoc, List.length_take, Nat.min_eq_left (by omega), Nat.zero_add]
theorem filledFrom_get : ∀ (ks : List ByteArray) (n i : Nat) (h : i < ks.length), (filledFrom n ks)[i]'(by rw [filledFrom_length]; exact h) = ⟨ks[i], ((n + i : Nat) : Int) + 1, ks[i]⟩
  | [], _, _, h => by simp at h
  | s :: ks, n, 0, _ => rfl
  | s :: ks, n, i + 1, h => by
    simp only [filledFrom, List.getElem_cons_succ]
    rw [filledFrom_get ks (n + 1) i (by simpa using h), show n + 1 + i = n + (i + 1) by omega]
theorem filled_get (ks : List ByteArray) (i : Nat) (h : i < ks.length) : (filled ks)[i]'(by rw [filled_length]; exact h) = ⟨ks[i], (i : Int) + 1, ks[i]⟩ := by
  have := filledFrom_get ks 0 i h
  rw [Nat.zero_add] at this
  exact this
theorem filledFrom_fits : ∀ (ks : List ByteArray) (n : Nat), (∀ s ∈ ks, s.size ≤ maxLen) → ∀ e ∈ filledFrom n ks, e.key.size ≤ maxLen
  | [], _, _, e, he => by simp [filledFrom] at he
  | s :: ks, n, h, e, he => by
    simp only [filledFrom, List.mem_cons] at he
    rcases he with rfl | he
    · exact h s (by simp)
    · exact filledFrom_fits ks (n + 1) (fun x hx => h x (by simp [hx])) e he

/-! ### the state's facts that the walk reads -/
theorem StG.tab {w : World} {tb g : Nat} {es : List Ent} {u : Bool} (h : StG w tb g es u) : ∃ c, w.cell? ⟨tb, 0, none⟩ = some (.slice (some ⟨g, 0, none⟩) es.length c) := by
  obtain ⟨full, z, mv, h1, _⟩ := h
  exact ⟨_, h1.c0⟩
theorem StG.cells {w : World} {tb g : Nat} {es : List Ent} {u : Bool} (h : StG w tb g es u) (k : Nat) (hk : k < es.length) (j : Nat) (hj : j < 7) : w.cell? ⟨g, k * 7 + j, none⟩ = (entCells es[k])[j]? := by
  obtain ⟨full, z, mv, h1, h2, h3, h4, h5, h6⟩ := h
  have hl : full.length = es.length + z := by rw [h5]; simp
  rw [h3.cell k j (by omega) hj]
  have : full[k]'(by omega) = es[k] := by simp [h5, List.getElem_append_left hk]
  rw [this]
theorem StG.frozen {w : World} {tb g : Nat} {es : List Ent} {u : Bool} (h : StG w tb g es u) (o : Nat) : w.frozen? ⟨g, o, none⟩ = false := by
  obtain ⟨full, z, mv, h1, h2, h3, h4, h5, h6⟩ := h
  exact h3.f o
theorem StG.alike {X Y : World} {tb g : Nat} {es : List Ent} {u : Bool} (h : StG X tb g es u) (hh : Y.heap = X.heap) : StG Y tb g es u := by
  obtain ⟨full, z, mv, h1, h2, h3, h4, h5, h6⟩ := h
  refine ⟨full, z, mv, by unfold TabAt; rw [hh]; exact h1, h2, by unfold RowAt; rw [hh]; exact h3, h4, h5, ?_⟩
  rcases h6 with h | ⟨m, a, b, c, d, e⟩
  · exact .inl h
  · exact .inr ⟨m, a, b, c, d, by unfold Ix World.ownsMap at e ⊢; rw [hh]; exact e⟩
/-- The last entry's text and line are written. -/
theorem StG.fill {w : World} {tb g : Nat} {es : List Ent} {s : ByteArray} {u : Bool} (h : StG w tb g (es ++ [newEnt s]) u) (l : Int) (t : ByteArray) :
    StG ((w.setCell ⟨g, es.length * 7 + 1 + 2, none⟩ (.string t)).setCell ⟨g, es.length * 7 + 1 + 1, none⟩ (.int .i32 l)) tb g (es ++ [⟨s, l, t⟩]) u := by
  obtain ⟨full, z, mv, h1, h2, h3, h4, h5, h6⟩ := h
  have hl : full.length = es.length + 1 + z := by rw [h5]; simp; omega
  have hlt : es.length < full.length := by omega
  have hg : full[es.length] = newEnt s := by simp [h5]
  have r1 := h3.set es.length 3 (.string t) ⟨s, 0, t⟩ hlt (by omega) (by rw [hg]; rfl)
  have r2 := r1.set es.length 2 (.int .i32 l) ⟨s, l, t⟩ (by simpa using hlt) (by omega) (by simp; rfl)
  rw [List.set_set] at r2
  have hm : (es ++ [newEnt s]).map Ent.key = (es ++ [(⟨s, l, t⟩ : Ent)]).map Ent.key := by simp [newEnt]
  refine ⟨full.set es.length ⟨s, l, t⟩, z, mv, ?_, h2, r2, by simpa using h4, ?_, ?_⟩
  · have := (h1.keep (heap_set_other w g tb (es.length * 7 + 1 + 2) (.string t) (by omega))).keep (heap_set_other _ g tb (es.length * 7 + 1 + 1) (.int .i32 l) (by omega))
    simpa using this
  · rw [h5, List.append_assoc, List.set_append_right _ _ (Nat.le_refl _)]
    simp
  · rcases h6 with ⟨a, b⟩ | ⟨m, a, b, c, d, e⟩
    · exact .inl ⟨a, by simpa using b⟩
    · refine .inr ⟨m, a, b, by simpa using c, d, ?_⟩
      rw [hm] at e
      have e1 := e.set g (es.length * 7 + 1 + 2) (.string t) _ _ _ h3
      have e2 := e1.set g (es.length * 7 + 1 + 1) (.int .i32 l) _ _ _ r1
      simpa using e2
end Go.Proofs.Qxb6627852a
