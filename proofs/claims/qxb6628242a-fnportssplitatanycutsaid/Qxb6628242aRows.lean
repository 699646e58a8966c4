/-
  No cell of these rows narrows 'for every input' (looked for: loops, veiled, ifaces, maps, wideKeys, modest, calm, conditions, laid).
  DERIVED. THE GIVEN ROWS OF THIS SEAT. 1 by the template 'for every input the law returns true; each argument reads behind the call as it read before'; 0 by the template 'total and deterministic' (their statements: Qxb6628242aTotals.lean).
  GIVEN WITH THE SEED: the statements are not yours to turn. If you find one false, say at which input.
  Laid BY PROGRAM, IN A SANDBOX (cutbox-rows.mjs): the forced cells as the released guide's own fill.sh prints them over the translation 6cbac50ece0ad407… (all of the seat's roots in one cut). By AI agents, Wed Nov 11 2026. No macro, syntax, notation, axiom, sorry.
-/
import Derived.Test.Qxb6628242aChecked
import GoSem.Claim
import GoSem.ClaimJoined
import GoSem.ClaimMapViews
import Derived.JoinedTies
import Derived.KernelRfl
namespace Go.Proofs.Qxb6628242a
/- THE CELL 'sum', in the pinned program and in every row, IS THE sha256 OF THE DUMP (.gsa) THAT Qxb6628242aProg.lean LOADS. Nothing in Lean hashes anything: it is a label: what it is worth is what the hold of that sum in a sandbox is worth. -/
noncomputable def Try.pinned : Pinned := { name := "qxb6628242a", sum := "6cbac50ece0ad407608f85cfb5b50a69a572e3343535c995400339ca800e0f24", checked := Try.checked }
namespace Rows
def none {H : Type} : Left H := { results := [], args := [] }

/-- 'zzlaws_internal_signal_b1.FnPortsSplitAtAnyCut': WHATEVER THE INPUT: true; the input reads as it did. -/
def fnPortsSplitAtAnyCutSpec : ChangeSpec := { name := "fnPortsSplitAtAnyCut", fn := fun _ => fun
  | [d1, d2, d3, d4] => { results := [.lit (.bool true)], args := [d1, d2, d3, d4] }
  | _ => none }
def fnPortsSplitAtAnyCutRow : OpenClaim := { program := "qxb6628242a", sum := "6cbac50ece0ad407608f85cfb5b50a69a572e3343535c995400339ca800e0f24", func := "example.com/peerhole/peerhole/zzlaws_internal_signal_b1.FnPortsSplitAtAnyCut", spec := "fnPortsSplitAtAnyCut", apart := false }
def FnPortsSplitAtAnyCutSaid : Prop := fnPortsSplitAtAnyCutRow.holds Try.pinned (OpenSpec.ofChange fnPortsSplitAtAnyCutSpec)

/-- ITS FALSE NEIGHBOUR: 'it returns false'. Refute it at one input. -/
def fnPortsSplitAtAnyCutWrong : ChangeSpec := { name := "fnPortsSplitAtAnyCut", fn := fun _ => fun
  | [d1, d2, d3, d4] => { results := [.lit (.bool false)], args := [d1, d2, d3, d4] }
  | _ => none }
def FnPortsSplitAtAnyCutWrongFalsely : Prop := fnPortsSplitAtAnyCutRow.holds Try.pinned (OpenSpec.ofChange fnPortsSplitAtAnyCutWrong)

end Rows
end Go.Proofs.Qxb6628242a
