/-
  A PROOF OF 'Rows.FnIsUUIDCanonicalTextAndOneByteChangeSaid'. The frame is the guide's template at this function's types (an array of 16 bytes by value, three integers); the walk: Qxb6628166aLaw.
-/
import Derived.Test.Qxb6628166aLaw
import Derived.ProofKit
import Derived.OpenShut
namespace Go.Proofs.Qxb6628166a.fnIsUUIDCanonicalTextAndOneByteChange
open Go.ChangeShapes Go.WideShapes Go.ChangeAt Go.RowKit

theorem own : ownKnob Try.prog.godebug = none := by kernel_rfl
theorem laidOut : laidOutB Try.prog = true := by kernel_rfl
theorem cells5 : Try.prog.cellsOf 5 = 1 := by kernel_rfl
theorem cells23 : Try.prog.cellsOf 23 = 16 := by kernel_rfl

theorem okWide_arr {P : Program} {w : World} {r : Reach} {base : Nat} {t : TypeId} {v : Value} {n : Nat} {e : TypeId} (ht : P.underlying t = some (.array n e)) (h : Value.okWide P w r base t v) : ∃ cs, v = .agg cs ∧ cs.size = P.cellsOf t := by
  simp only [Value.okWide, ht] at h
  obtain ⟨cs, h1, h2, _⟩ := h
  exact ⟨cs, h1, h2⟩

/-- The array of 16 bytes, opened. -/
theorem open_bytes {H : Type} {enc : TypeId × Value → H} {W : World} {r : Reach} {b0 : Nat} {v : Value} {d : DataW H} {p : List MemPlace} (hv : Value.okWide Try.prog W r b0 23 v) (h : DataW.Trod enc Try.prog W 0 (fun _ => true) true 23 v d p) :
    ∃ us : List Int, v = .agg (cellsU us) ∧ us.length = 16 ∧ ∀ x ∈ us, 0 ≤ x ∧ x ≤ 255 := by
  obtain ⟨cs, rfl, hsz⟩ := okWide_arr Try.underlying23 hv
  rw [cells23] at hsz
  obtain ⟨fuel, hf⟩ := h
  obtain ⟨xs, m, _, _, _, hxl, hel⟩ := DataW.trod_array Try.underlying23 hf
  have each : ∀ i, i < 16 → ∃ n, cs.toList[i]? = some (.int .u8 n) ∧ 0 ≤ n ∧ n ≤ 255 := by
    intro i hi
    have h1 := hel i hi
    rw [List.getElem?_eq_getElem (by omega)] at h1
    obtain ⟨n, h2, _, h3⟩ := DataW.trod_int Try.underlying5 h1
    rw [cells5, Nat.mul_one] at h2
    have hc : (Value.agg cs).cells.toList = cs.toList := rfl
    rw [hc] at h2
    refine ⟨n, ?_, bounds_u8 h3⟩
    have hi' : i < cs.toList.length := by simpa [hsz] using hi
    rw [List.drop_eq_getElem_cons hi'] at h2
    simp only [List.take_succ_cons, List.take_zero, List.cons.injEq, and_true] at h2
    rw [List.getElem?_eq_getElem hi', h2]
  refine ⟨cs.toList.map intOf, ?_, by simp [hsz], ?_⟩
  · congr 1
    apply Array.ext'
    apply List.ext_getElem?
    intro i
    by_cases hi : i < 16
    · obtain ⟨n, h1, _⟩ := each i hi
      simp only [cellsU, List.map_map, List.getElem?_map, h1]
      rfl
    · rw [List.getElem?_eq_none (by simp [hsz]; omega), List.getElem?_eq_none (by simp [cellsU, hsz]; omega)]
  · intro x hx
    obtain ⟨y, hy, rfl⟩ := List.mem_map.1 hx
    obtain ⟨i, hi, he⟩ := List.mem_iff_getElem.1 hy
    obtain ⟨n, h1, h2⟩ := each i (by simpa [hsz] using hi)
    rw [List.getElem?_eq_getElem hi, he] at h1
    injection h1 with h1
    subst h1
    exact h2

set_option maxRecDepth 100000 in
theorem lifted (os : Os) (started : os.Started) (H : Type) (enc : TypeId × Value → H) :
    ReturnsInHanded {} Try.checked os 4 .any (Rows.fnIsUUIDCanonicalTextAndOneByteChangeSpec.pre6 enc Try.prog Try.f4 Rows.fnIsUUIDCanonicalTextAndOneByteChangeRow.domain false) (Rows.fnIsUUIDCanonicalTextAndOneByteChangeSpec.post enc Try.prog Try.f4 false true false false) := by
  refine returnsInHanded_of_change (C := Try.checked) own started (by kernel_rfl) Try.func4
    (ChangeSpec.witness6 (enc := enc) (C := Try.checked) false ⟨#[], #[.agg #[.int .u8 0, .int .u8 0, .int .u8 0, .int .u8 0, .int .u8 0, .int .u8 0, .int .u8 0, .int .u8 0, .int .u8 0, .int .u8 0, .int .u8 0, .int .u8 0, .int .u8 0, .int .u8 0, .int .u8 0, .int .u8 0], .int .u32 0, .int .u8 0, .int .u8 0], []⟩ 8 (by kernel_rfl) (by kernel_rfl) (by kernel_rfl) (by kernel_rfl)) ?_
  intro W base args ds gs before hval0 hW hcnd _
  have hval : ∀ (j : Nat) t v, Try.f4.params[j]? = some t → args[j]? = some v → Value.okWide Try.prog W .any base t v := hval0
  have hW' := hW
  obtain ⟨p, q, hA0, hV, rfl, hfz, hnd⟩ := hW
  have hA : DataW.TrodAll enc Try.prog W 0 (fun _ => true) true Try.f4.params.toList args.toList ds p := hA0
  rw [Try.params4] at hA hval
  obtain ⟨v0, vs0, d0, ds0, p0, q0, hargs, rfl, rfl, h0, r0⟩ := trodAll_cons hA
  obtain ⟨v1, vs1, d1, ds1, p1, q1, rfl, rfl, rfl, h1, r1⟩ := trodAll_cons r0
  obtain ⟨v2, vs2, d2, ds2, p2, q2, rfl, rfl, rfl, h2, r2⟩ := trodAll_cons r1
  obtain ⟨v3, vs3, d3, ds3, p3, q3, rfl, rfl, rfl, h3, r3⟩ := trodAll_cons r2
  obtain ⟨rfl, rfl, rfl⟩ := trodAll_nil r3
  obtain rfl : args = #[v0, v1, v2, v3] := by cases args; simp_all
  obtain ⟨rfl, rfl⟩ := trodVars_none hV
  have k0 := h0
  have lt0 : ∀ x ∈ p0, x.block < W.heap.size := by obtain ⟨m, hm⟩ := k0; exact DataW.trod_lt m _ _ _ hm
  obtain ⟨us, rfl, hl, hu⟩ := open_bytes (hval 0 23 v0 rfl rfl) h0
  obtain ⟨a1, rfl, rfl, rfl, w1⟩ := open_int Try.underlying24 (hval 1 24 v1 rfl rfl) h1
  obtain ⟨a2, rfl, rfl, rfl, w2⟩ := open_int Try.underlying5 (hval 2 5 v2 rfl rfl) h2
  obtain ⟨a3, rfl, rfl, rfl, w3⟩ := open_int Try.underlying5 (hval 3 5 v3 rfl rfl) h3
  clear hA0 hval0
  refine (law_any us a1 a2 a3 W hl hu (bounds_u8 w2).1 (bounds_u8 w3)).mono fun e W' ⟨he, bel⟩ => ?_
  subst he
  exact ⟨_, rfl, _, _, _, [], _, [], hW', trodAll_mk1 (shut_bool Try.underlying4 _), (trodAll_cons_mk (Below.trod laidOut (by kernel_rfl) (of_decide_eq_true (by kernel_rfl)) k0 bel lt0) (trodAll_cons_mk (shut_int Try.underlying24 w1) (trodAll_cons_mk (shut_int Try.underlying5 w2) (trodAll_cons_mk (shut_int Try.underlying5 w3) trodAll_mk0)))), rfl, bel.frame _, fun h => by cases h⟩

theorem over : Rows.fnIsUUIDCanonicalTextAndOneByteChangeRow.holds Try.pinned (OpenSpec.ofChange Rows.fnIsUUIDCanonicalTextAndOneByteChangeSpec) :=
  OpenClaim.holds_of_wide 4 Try.f4 rfl rfl rfl rfl rfl rfl rfl ⟨rfl, rfl, rfl, rfl, rfl⟩ rfl rfl rfl rfl rfl (by kernel_rfl) Try.func4 (by kernel_rfl)
    (of_decide_eq_true (by kernel_rfl)) (by unfold Func.isWrapper; first | (rw [if_pos (by decide +kernel)]; kernel_rfl) | (rw [if_neg (by decide +kernel)]; exact ⟨rfl, rfl⟩))
    (fun os started H enc _ => lifted os started H enc)

/-- ████ THE STATEMENT ████ -/
theorem proved : Rows.FnIsUUIDCanonicalTextAndOneByteChangeSaid :=
  over
end Go.Proofs.Qxb6628166a.fnIsUUIDCanonicalTextAndOneByteChange
