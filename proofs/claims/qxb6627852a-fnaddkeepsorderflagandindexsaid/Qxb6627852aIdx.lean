/-
  THE PLAIN LAW OF THE INDEX: a map filled from a list of keys holds each distinct key once, at the place where it was put last; the flag 'some key was smaller than the one before it'.
-/
import Derived.Test.Qxb6627852aFill
namespace Go.Proofs.Qxb6627852a
open Go.RowKit Go.Maps

abbrev kl (s : ByteArray) : Lit := .string s.data.toList
theorem kl_inj {s t : ByteArray} (h : kl s = kl t) : s = t := by
  injection h with h
  have h2 : s.data = t.data := by
    apply Array.ext'
    exact h
  cases s; cases t; cases h2; rfl
theorem kl_key (s : ByteArray) : WideAt.IsKeyLit (kl s) := by simp [WideAt.IsKeyLit]

theorem tidy_take (ks : List ByteArray) : ∀ n, n ≤ ks.length → Tidy (idxD (ks.take n))
  | 0, _ => by simp only [List.take_zero]; exact tidy_empty
  | n + 1, h => by
    rw [List.take_succ_eq_append_getElem (by omega), idxD_snoc]
    exact (tidy_take ks n (by omega)).put (kl_key _) _

theorem has_take (ks : List ByteArray) (s : ByteArray) : ∀ n, n ≤ ks.length → (Maps.has (idxD (ks.take n)) (kl s) = true ↔ s ∈ ks.take n)
  | 0, _ => by simp only [List.take_zero]; simp [idxD, idxFrom, Maps.has]
  | n + 1, h => by
    have ih := has_take ks s n (by omega)
    rw [List.take_succ_eq_append_getElem (by omega), idxD_snoc]
    by_cases e : s = ks[n]
    · subst e
      rw [has_put_same (tidy_take ks n (by omega)).isMap (kl_key _)]
      exact ⟨fun _ => List.mem_append.2 (.inr (List.mem_singleton.2 rfl)), fun _ => rfl⟩
    · rw [has_put_other (fun h => e (kl_inj h)), ih, List.mem_append, List.mem_singleton]
      exact ⟨.inl, fun h => h.resolve_right e⟩

theorem at_take (ks : List ByteArray) (s : ByteArray) (z : DataW Unit) : ∀ n, n ≤ ks.length → s ∈ ks.take n →
    ∃ (j : Nat) (hj : j < ks.length), j < n ∧ ks[j] = s ∧ (∀ (i : Nat) (hi : i < ks.length), j < i → i < n → ks[i] ≠ s) ∧ (idxD (ks.take n)).atKey (kl s) z = .lit (.int .i32 (j : Int))
  | 0, _, hm => by simp at hm
  | n + 1, h, hm => by
    have hl : (ks.take n).length = n := by simp; omega
    rw [List.take_succ_eq_append_getElem (by omega)] at hm ⊢
    rw [idxD_snoc, hl]
    by_cases e : s = ks[n]
    · subst e
      refine ⟨n, by omega, by omega, rfl, fun i hi h1 h2 => by omega, ?_⟩
      exact atKey_put_same (tidy_take ks n (by omega)).isMap (kl_key _) _ _
    · have hm' : s ∈ ks.take n := (List.mem_append.1 hm).resolve_right (fun h => e (List.mem_singleton.1 h))
      obtain ⟨j, hj, h1, h2, h3, h4⟩ := at_take ks s z n (by omega) hm'
      refine ⟨j, hj, by omega, h2, fun i hi a b => ?_, ?_⟩
      · by_cases hin : i = n
        · subst hin; exact fun h => e h.symm
        · exact h3 i hi a (by omega)
      · rw [atKey_put_other (fun h => e (kl_inj h))]; exact h4

def inB (s : ByteArray) (ks : List ByteArray) : Bool := ks.any fun t => decide (t.data.toList = s.data.toList)
theorem inB_iff (s : ByteArray) (ks : List ByteArray) : inB s ks = true ↔ s ∈ ks := by
  unfold inB
  rw [List.any_eq_true]
  constructor
  · rintro ⟨t, ht, h⟩
    have : t = s := kl_inj (by unfold kl; rw [of_decide_eq_true h])
    subst this; exact ht
  · intro h; exact ⟨s, h, by simp⟩
theorem inB_not {s : ByteArray} {ks : List ByteArray} (h : s ∉ ks) : inB s ks = false := by
  cases e : inB s ks
  · rfl
  · exact absurd ((inB_iff s ks).1 e) h
theorem inB_in {s : ByteArray} {ks : List ByteArray} (h : s ∈ ks) : inB s ks = true := (inB_iff s ks).2 h
theorem getD_at (ks : List ByteArray) (k : Nat) (h : k < ks.length) : ks.getD k ⟨#[]⟩ = ks[k] := by simp [List.getD, List.getElem?_eq_getElem h]

/-- How many keys do not come again further on. -/
def nd : List ByteArray → Nat
  | [] => 0
  | s :: ks => (if inB s ks then 0 else 1) + nd ks

theorem inB_snoc (a s : ByteArray) (ks : List ByteArray) : inB a (ks ++ [s]) = (inB a ks || decide (s.data.toList = a.data.toList)) := by simp [inB]
theorem inB_cons (a s : ByteArray) (ks : List ByteArray) : inB s (a :: ks) = (decide (a.data.toList = s.data.toList) || inB s ks) := by simp [inB]

theorem nd_snoc (s : ByteArray) : ∀ ks : List ByteArray, nd (ks ++ [s]) = nd ks + if inB s ks then 0 else 1
  | [] => by simp [nd, inB]
  | a :: ks => by
    simp only [List.cons_append, nd]
    rw [nd_snoc s ks, inB_snoc, inB_cons]
    by_cases h3 : a.data.toList = s.data.toList
    · have : a = s := kl_inj (by unfold kl; rw [h3])
      subst this
      cases inB a ks <;> simp
      omega
    · have h4 : ¬ s.data.toList = a.data.toList := fun e => h3 e.symm
      rw [decide_eq_false h3, decide_eq_false h4]
      simp
      omega

theorem size_take (ks : List ByteArray) : ∀ n, n ≤ ks.length → Maps.size (idxD (ks.take n)) = nd (ks.take n)
  | 0, _ => by simp only [List.take_zero]; rfl
  | n + 1, h => by
    have ih := size_take ks n (by omega)
    have hh := has_take ks ks[n] n (by omega)
    rw [List.take_succ_eq_append_getElem (by omega), idxD_snoc, nd_snoc, size_put (tidy_take ks n (by omega)), ih]
    by_cases e : ks[n] ∈ ks.take n
    · rw [if_pos (hh.2 e), inB_in e, if_pos rfl]; omega
    · rw [if_neg (fun x => e (hh.1 x)), inB_not e]; rfl

/-- .. among the first k. -/
def cnt (ks : List ByteArray) : Nat → Nat
  | 0 => 0
  | k + 1 => cnt ks k + if inB (ks.getD k ⟨#[]⟩) (ks.drop (k + 1)) then 0 else 1

theorem cnt_nd (ks : List ByteArray) : ∀ k, k ≤ ks.length → cnt ks k + nd (ks.drop k) = nd ks
  | 0, _ => by simp [cnt]
  | k + 1, h => by
    have ih := cnt_nd ks k (by omega)
    rw [List.drop_eq_getElem_cons (by omega)] at ih
    simp only [nd] at ih
    simp only [cnt]
    rw [getD_at ks k (by omega)]
    omega

theorem cnt_all (ks : List ByteArray) : cnt ks ks.length = nd ks := by
  have := cnt_nd ks ks.length (Nat.le_refl _)
  rw [List.drop_length] at this
  simpa [nd] using this

theorem cnt_le (ks : List ByteArray) : ∀ k, cnt ks k ≤ k
  | 0 => Nat.le_refl _
  | k + 1 => by have := cnt_le ks k; simp only [cnt]; split <;> omega

/-- One round of the count: p: the last place of key k. -/
theorem cnt_step (ks : List ByteArray) (k p : Nat) (hk : k < ks.length) (hp : p < ks.length) (hkp : k ≤ p) (he : ks[p] = ks[k]) (hl : ∀ (i : Nat) (hi : i < ks.length), p < i → ks[i] ≠ ks[k]) :
    cnt ks (k + 1) = cnt ks k + if p = k then 1 else 0 := by
  simp only [cnt]
  rw [getD_at ks k hk]
  by_cases e : p = k
  · rw [if_pos e, inB_not]
    · rfl
    intro hm
    obtain ⟨i, hi, h1⟩ := List.mem_iff_getElem.1 hm
    rw [List.getElem_drop] at h1
    exact hl (k + 1 + i) (by simp at hi; omega) (by omega) h1
  · rw [if_neg e, inB_in]
    · rfl
    refine List.mem_iff_getElem.2 ⟨p - (k + 1), by simp; omega, ?_⟩
    rw [List.getElem_drop]
    have : k + 1 + (p - (k + 1)) = p := by omega
    simp only [this]
    exact he

/-! ### the flag -/
def descTo (ks : List ByteArray) : Nat → Bool
  | 0 => false
  | k + 1 => descTo ks k || descB ((ks.take k).map newEnt) (ks.getD k ⟨#[]⟩)

theorem descTo_one (ks : List ByteArray) : descTo ks 1 = false := by simp [descTo, descB]

theorem descTo_step (ks : List ByteArray) (k : Nat) (h0 : 0 < k) (hk : k < ks.length) : descTo ks (k + 1) = (descTo ks k || Op.bytesLess ks[k].toList (ks[k - 1]'(by omega)).toList) := by
  simp only [descTo, descB]
  rw [getD_at ks k hk]
  have : ((ks.take k).map newEnt).getLast? = some (newEnt (ks[k - 1]'(by omega))) := by
    rw [List.getLast?_eq_getElem?]
    simp only [List.length_map, List.length_take, Nat.min_eq_left (Nat.le_of_lt hk), List.getElem?_map]
    rw [List.getElem?_take_of_lt (by omega), List.getElem?_eq_getElem (by omega)]
    rfl
  rw [this]
  rfl

end Go.Proofs.Qxb6627852a
