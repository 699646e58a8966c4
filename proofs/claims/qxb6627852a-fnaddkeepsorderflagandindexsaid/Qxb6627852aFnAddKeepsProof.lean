/-
  A PROOF OF 'Rows.FnAddKeepsOrderFlagAndIndexSaid'. The frame is the guide's template for a law over a slice (howto/shells, bytes-and-an-int), turned to a slice of strings; the walk: Qxb6627852aLaw2.
-/
import Derived.Test.Qxb6627852aLaw2
import Derived.ProofKit
import Derived.OpenShut
import Derived.SliceStrings
namespace Go.Proofs.Qxb6627852a.fnAddKeepsOrderFlagAndIndex
open Go.ChangeShapes Go.WideShapes Go.ChangeAt Go.RowKit

theorem own : ownKnob Try.prog.godebug = none := by kernel_rfl
theorem laidOut : laidOutB Try.prog = true := by kernel_rfl
theorem cells9 : Try.prog.cellsOf 9 = 1 := by kernel_rfl

set_option maxRecDepth 100000 in
theorem lifted (os : Os) (started : os.Started) (H : Type) (enc : TypeId × Value → H) :
    ReturnsInHanded {} Try.checked os 4 .any (Rows.fnAddKeepsOrderFlagAndIndexSpec.pre6 enc Try.prog Try.f4 Rows.fnAddKeepsOrderFlagAndIndexRow.domain false) (Rows.fnAddKeepsOrderFlagAndIndexSpec.post enc Try.prog Try.f4 false true false false) := by
  refine returnsInHanded_of_change (C := Try.checked) own started (by kernel_rfl) Try.func4
    (ChangeSpec.witness6 (enc := enc) (C := Try.checked) false ⟨#[], #[.slice none 0 0], []⟩ 8 (by kernel_rfl) (by kernel_rfl) (by kernel_rfl) (by kernel_rfl)) ?_
  intro W base args ds gs before hval0 hW hcnd _
  have hval : ∀ (j : Nat) t v, Try.f4.params[j]? = some t → args[j]? = some v → Value.okWide Try.prog W .any base t v := hval0
  have hW' := hW
  obtain ⟨p, q, hA0, hV, rfl, hfz, hnd⟩ := hW
  have hA : DataW.TrodAll enc Try.prog W 0 (fun _ => true) true Try.f4.params.toList args.toList ds p := hA0
  rw [Try.params4] at hA hval
  obtain ⟨v0, vs0, d0, ds0, p0, q0, hargs, rfl, rfl, h0, r0⟩ := trodAll_cons hA
  obtain ⟨rfl, rfl, rfl⟩ := trodAll_nil r0
  obtain rfl : args = #[v0] := by cases args; simp_all
  obtain ⟨rfl, rfl⟩ := trodVars_none hV
  obtain ⟨a0, len0, cap0, rfl⟩ := okWide_slice Try.underlying22 (hval 0 22 v0 rfl rfl)
  have k0 := h0
  have lt0 : ∀ x ∈ p0, x.block < W.heap.size := by obtain ⟨m, hm⟩ := k0; exact DataW.trod_lt m _ _ _ hm
  obtain ⟨ks, b, off, w0⟩ : ∃ ks b off, KeyAt W a0 len0 ks b off := by
    obtain ⟨fuel, hf⟩ := h0
    rcases open_strings Try.underlying22 Try.underlying9 cells9 hf with ⟨hcs, _⟩ | ⟨x, l, c, ss, hcs, _, hl, hm, hz, hx, hcell, hws⟩
    · simp [Value.cells] at hcs
      obtain ⟨rfl, rfl, rfl⟩ := hcs
      exact ⟨[], 0, 0, rfl, fun h => by omega, fun h => by omega, fun i hi => by simp at hi, fun s hs => by simp at hs⟩
    · simp [Value.cells] at hcs
      obtain ⟨rfl, rfl, rfl⟩ := hcs
      simp only [if_true] at hz
      by_cases hl0 : len0 = 0
      · subst hl0
        exact ⟨[], 0, 0, rfl, fun h => by omega, fun h => by omega, fun i hi => by simp at hi, fun s hs => by simp at hs⟩
      · obtain ⟨b, off, spot⟩ := x
        have hspot : spot = none := by simpa [Addr.add] using World.cell?_spot (hcell 0 (by omega))
        subst hspot
        refine ⟨ss.take len0, b, off, by simp; omega, fun _ => rfl, fun _ => ?_, fun i hi => ?_, fun s hs => hws s (List.mem_of_mem_take hs)⟩
        · simp only [Prod.mk.injEq] at hx
          exact lt0 (.cell b off) (by rw [hx.2]; exact MemPlace.mem_row.2 ⟨0, by omega, by simp⟩)
        · have hi' : i < ss.length := by simp at hi; omega
          have := hcell i hi'
          rw [add_plain] at this
          rw [this]
          simp [List.getD, List.getElem?_eq_getElem hi']
  clear hA0 hval0
  refine (law2 W a0 len0 cap0 ks b off w0).mono fun e W' ⟨he, bel⟩ => ?_
  subst he
  exact ⟨_, rfl, _, _, _, [], _, [], hW', trodAll_mk1 (shut_bool Try.underlying4 _), (trodAll_cons_mk (Below.trod laidOut (by kernel_rfl) (of_decide_eq_true (by kernel_rfl)) k0 bel lt0) trodAll_mk0), rfl, bel.frame _, fun h => by cases h⟩

theorem over : Rows.fnAddKeepsOrderFlagAndIndexRow.holds Try.pinned (OpenSpec.ofChange Rows.fnAddKeepsOrderFlagAndIndexSpec) :=
  OpenClaim.holds_of_wide 4 Try.f4 rfl rfl rfl rfl rfl rfl rfl ⟨rfl, rfl, rfl, rfl, rfl⟩ rfl rfl rfl rfl rfl (by kernel_rfl) Try.func4 (by kernel_rfl)
    (of_decide_eq_true (by kernel_rfl)) (by unfold Func.isWrapper; first | (rw [if_pos (by decide +kernel)]; kernel_rfl) | (rw [if_neg (by decide +kernel)]; exact ⟨rfl, rfl⟩))
    (fun os started H enc _ => lifted os started H enc)

/-- ████ THE STATEMENT ████ -/
theorem proved : Rows.FnAddKeepsOrderFlagAndIndexSaid :=
  over
end Go.Proofs.Qxb6627852a.fnAddKeepsOrderFlagAndIndex
