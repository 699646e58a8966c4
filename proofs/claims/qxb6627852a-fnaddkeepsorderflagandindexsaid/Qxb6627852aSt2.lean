/-
  THE SECOND LAW's STATE: behind k adds, and what the walk reads of it.
-/
import Derived.Test.Qxb6627852aIdx
import Derived.Test.Qxb6627852aKeys
namespace Go.Proofs.Qxb6627852a
open Go.RowKit Go.Maps

def L2 (w wr : World) (ks : List ByteArray) (k : Nat) : Prop := St wr w.heap.size ((ks.take k).map newEnt) (descTo ks k) ∧ Below w.heap.size w wr

theorem L2.start (w : World) (ks : List ByteArray) : L2 w (w.alloc (.cells #[.slice none 0 0, .bool false, .map none, .int .u8 0] 42)) ks 0 :=
  ⟨⟨_, _, heap_alloc_new w _, .inl ⟨rfl, rfl⟩, .inl ⟨rfl, .inr rfl⟩⟩, (Below.refl _ _).alloc (Nat.le_refl _) _⟩

theorem L2.alike {w X Y : World} {ks : List ByteArray} {k : Nat} (h : L2 w X ks k) (hh : Y.heap = X.heap) (ho : Y.os = X.os) (ht : Y.tape = X.tape) (hp : Y.output = X.output) : L2 w Y ks k := by
  obtain ⟨⟨sl, mv, h1, h2, h3⟩, hb⟩ := h
  refine ⟨⟨sl, mv, by unfold TabAt; rw [hh]; exact h1, ?_, ?_⟩, ⟨ho.trans hb.os, ht.trans hb.tape, hp.trans hb.output, by rw [hh]; exact hb.size, fun k a => by rw [hh]; exact hb.block k a⟩⟩
  · rcases h2 with h | ⟨g, full, z, h4, h5, h6, h7, h8⟩
    · exact .inl h
    · exact .inr ⟨g, full, z, h4, h5, by unfold RowAt; rw [hh]; exact h6, h7, h8⟩
  · rcases h3 with h | ⟨m, a, b, c, d, e⟩
    · exact .inl h
    · exact .inr ⟨m, a, b, c, d, by unfold Ix World.ownsMap at e ⊢; rw [hh]; exact e⟩

/-- One add. -/
theorem add_round2 (w wr : World) (ks : List ByteArray) (k : Nat) (hk : k < ks.length) (h4 : ks.length ≤ 4096) (hfits : ∀ s ∈ ks, s.size ≤ maxLen) (hL : L2 w wr ks k) (s : ByteArray) (hs : s = ks[k]) :
    Calls Try.prog 7 #[.pointer (some ⟨w.heap.size, 0, none⟩), .string s] wr fun e w1 => (∃ v, e = .returned v) ∧ Hid (L2 w w1 ks (k + 1)) := by
  obtain ⟨hst, hbl⟩ := hL
  have hlen : ((ks.take k).map newEnt).length = k := by simp; omega
  have hsz : s.size ≤ maxLen := by rw [hs]; exact hfits _ (List.getElem_mem _)
  refine (zzadd wr w.heap.size _ s _ hsz (by omega) ?_ hst).mono ?_
  · intro e he
    obtain ⟨x, hx, rfl⟩ := List.mem_map.1 he
    exact hfits x (List.mem_of_mem_take hx)
  rintro e w1 ⟨g, rfl, h1, h2⟩
  refine ⟨⟨_, rfl⟩, ?_, hbl.trans h2⟩
  have e1 : (ks.take (k + 1)).map newEnt = (ks.take k).map newEnt ++ [newEnt s] := by rw [List.take_succ_eq_append_getElem hk, List.map_append, hs]; rfl
  have e2 : descTo ks (k + 1) = (descTo ks k || descB ((ks.take k).map newEnt) s) := by simp only [descTo]; rw [getD_at ks k hk, hs]
  rw [e1, e2]
  exact St.of_G h1

theorem keys_newEnt (ks : List ByteArray) : (ks.map newEnt).map Ent.key = ks := by
  rw [List.map_map]
  conv => rhs; rw [← List.map_id ks]
  rfl

/-- What the walk reads behind all adds. -/
theorem L2.reads {w wr : World} {ks : List ByteArray} (h : L2 w wr ks ks.length) : ∃ a c mv, wr.cell? ⟨w.heap.size, 0, none⟩ = some (.slice a ks.length c) ∧ wr.cell? ⟨w.heap.size, 1, none⟩ = some (.bool (descTo ks ks.length)) ∧ wr.cell? ⟨w.heap.size, 2, none⟩ = some (.map mv) ∧
    (0 < ks.length → ∃ g, a = some ⟨g, 0, none⟩ ∧ ∀ (i : Nat) (hi : i < ks.length), wr.cell? ⟨g, i * 7, none⟩ = some (.string ks[i])) ∧
    ((mv = none ∧ (ks.length ≤ 8 ∨ descTo ks ks.length = false)) ∨ ∃ m, mv = some m ∧ 8 < ks.length ∧ descTo ks ks.length = true ∧ Ix wr m ks.length (idxD ks)) := by
  obtain ⟨⟨sl, mv, h1, h2, h3⟩, _⟩ := h
  rw [List.take_length] at h2 h3
  have hmp : (mv = none ∧ (ks.length ≤ 8 ∨ descTo ks ks.length = false)) ∨ ∃ m, mv = some m ∧ 8 < ks.length ∧ descTo ks ks.length = true ∧ Ix wr m ks.length (idxD ks) := by
    rcases h3 with ⟨a, b⟩ | ⟨m, a, b, c, d, e⟩
    · exact .inl ⟨a, by simpa using b⟩
    · rw [keys_newEnt, List.length_map] at e
      exact .inr ⟨m, a, by simpa using c, d, e⟩
  rcases h2 with ⟨h, rfl⟩ | ⟨g, full, z, rfl, h4, h5, h6, h7⟩
  · have : ks = [] := by simpa using h
    subst this
    exact ⟨none, 0, mv, h1.c0, h1.c1, h1.c2, fun h => by simp at h, hmp⟩
  · have h0 := h1.c0
    rw [List.length_map] at h0
    refine ⟨_, _, mv, h0, h1.c1, h1.c2, fun _ => ⟨g, rfl, fun i hi => ?_⟩, hmp⟩
    have hl : full.length = ks.length + z := by rw [h7]; simp
    have hc := h5.cell i 0 (by omega) (by omega)
    rw [Nat.add_zero] at hc
    have : full[i]'(by omega) = newEnt ks[i] := by simp [h7, List.getElem_append_left, hi]
    rw [hc, this]
    rfl

end Go.Proofs.Qxb6627852a
