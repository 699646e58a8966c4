/-
  ZZadd (function 7), over the table's state.
-/
import Derived.Test.Qxb6627852aAdd
namespace Go.Proofs.Qxb6627852a
open Go.RowKit Go.Maps

/-- A table without entries that was never grown, or one whose row lies somewhere. -/
theorem St.of_G {w : World} {tb g : Nat} {es : List Ent} {uns : Bool} (h : StG w tb g es uns) : St w tb es uns := by
  obtain ⟨full, z, mv, h1, h2, h3, h4, h5, h6⟩ := h
  exact ⟨_, mv, h1, .inr ⟨g, full, z, rfl, h2, h3, h4, h5⟩, h6⟩

theorem add_St (w : World) (tb : Nat) (es : List Ent) (s : ByteArray) (uns : Bool) (hs : s.size ≤ maxLen) (hn : es.length ≤ 4095) (hks : ∀ e ∈ es, e.key.size ≤ maxLen) (h : St w tb es uns) :
    Calls Try.prog 18 #[.pointer (some ⟨tb, 0, none⟩), .string s] w fun e w' => ∃ g, e = .returned (.pointer (some ⟨g, es.length * 7 + 1, none⟩)) ∧ StG w' tb g (es ++ [newEnt s]) (uns || descB es s) ∧ Below tb w w' := by
  obtain ⟨sl, mv, ht, hsl, hmp⟩ := h
  have hv : ∃ a n c, sl = .slice a n c := by
    rcases hsl with ⟨_, h⟩ | ⟨g, full, z, h, _⟩
    · exact ⟨_, _, _, h⟩
    · exact ⟨_, _, _, h⟩
  obtain ⟨a, n, c, rfl⟩ := hv
  have := hsl.len.1
  subst this
  exact add_any w tb es s uns mv _ c a hs hn hks ht hsl hmp

set_option maxHeartbeats 400000 in
theorem zzadd (w : World) (tb : Nat) (es : List Ent) (s : ByteArray) (uns : Bool) (hs : s.size ≤ maxLen) (hn : es.length ≤ 4095) (hks : ∀ e ∈ es, e.key.size ≤ maxLen) (h : St w tb es uns) :
    Calls Try.prog 7 #[.pointer (some ⟨tb, 0, none⟩), .string s] w fun e w' => ∃ g, e = .returned (.pointer (some ⟨g, es.length * 7 + 1, none⟩)) ∧ StG w' tb g (es ++ [newEnt s]) (uns || descB es s) ∧ Below tb w w' := by
  go_enter Try.func7, Try.ntmps7
  go_wp2_with fail
  refine (add_St w tb es s uns hs hn hks h).mono ?_
  rintro e w' ⟨g, rfl, hst, hbl⟩
  have HST : Hid (StG w' tb g (es ++ [newEnt s]) (uns || descB es s)) := hst
  clear hst
  go_wp2_with fail
  go_ret
  exact ⟨g, rfl, HST.out, hbl⟩

end Go.Proofs.Qxb6627852a
