/-
  No cell of these rows narrows 'for every input' (looked for: loops, veiled, ifaces, maps, wideKeys, modest, calm, conditions, laid).
  DERIVED. THE GIVEN ROWS OF THIS SEAT. 2 by the template 'for every input the law returns true; each argument reads behind the call as it read before'; 0 by the template 'total and deterministic' (their statements: Qxb6627813aTotals.lean).
  GIVEN WITH THE SEED: the statements are not yours to turn. If you find one false, say at which input.
  Laid BY PROGRAM, IN A SANDBOX (cutbox-rows.mjs): the forced cells as the released guide's own fill.sh prints them over the translation 923e16d4860a927f… (all of the seat's roots in one cut). By AI agents, Wed Nov 11 2026. No macro, syntax, notation, axiom, sorry.
-/
import Derived.Test.Qxb6627813aChecked
import GoSem.Claim
import GoSem.ClaimJoined
import GoSem.ClaimMapViews
import Derived.JoinedTies
import Derived.KernelRfl
namespace Go.Proofs.Qxb6627813a
/- THE CELL 'sum', in the pinned program and in every row, IS THE sha256 OF THE DUMP (.gsa) THAT Qxb6627813aProg.lean LOADS. Nothing in Lean hashes anything: it is a label: what it is worth is what the hold of that sum in a sandbox is worth. -/
noncomputable def Try.pinned : Pinned := { name := "qxb6627813a", sum := "923e16d4860a927f46563611e49d1833ebebe0a94e77ec14ff4a835c134a233f", checked := Try.checked }
namespace Rows
def none {H : Type} : Left H := { results := [], args := [] }

/-- 'zzlaws_pkg_wire_b1.FnIsHeaderSafeSplitAtAnyCut': WHATEVER THE INPUT: true; the input reads as it did. -/
def fnIsHeaderSafeSplitAtAnyCutSpec : ChangeSpec := { name := "fnIsHeaderSafeSplitAtAnyCut", fn := fun _ => fun
  | [d1, d2] => { results := [.lit (.bool true)], args := [d1, d2] }
  | _ => none }
def fnIsHeaderSafeSplitAtAnyCutRow : OpenClaim := { program := "qxb6627813a", sum := "923e16d4860a927f46563611e49d1833ebebe0a94e77ec14ff4a835c134a233f", func := "example.com/driftline/driftline/zzlaws_pkg_wire_b1.FnIsHeaderSafeSplitAtAnyCut", spec := "fnIsHeaderSafeSplitAtAnyCut", apart := false }
def FnIsHeaderSafeSplitAtAnyCutSaid : Prop := fnIsHeaderSafeSplitAtAnyCutRow.holds Try.pinned (OpenSpec.ofChange fnIsHeaderSafeSplitAtAnyCutSpec)

/-- ITS FALSE NEIGHBOUR: 'it returns false'. Refute it at one input. -/
def fnIsHeaderSafeSplitAtAnyCutWrong : ChangeSpec := { name := "fnIsHeaderSafeSplitAtAnyCut", fn := fun _ => fun
  | [d1, d2] => { results := [.lit (.bool false)], args := [d1, d2] }
  | _ => none }
def FnIsHeaderSafeSplitAtAnyCutWrongFalsely : Prop := fnIsHeaderSafeSplitAtAnyCutRow.holds Try.pinned (OpenSpec.ofChange fnIsHeaderSafeSplitAtAnyCutWrong)

/-- 'zzlaws_pkg_wire_b1.FnIsHeaderSafeInsertOneByte': WHATEVER THE INPUT: true; the input reads as it did. -/
def fnIsHeaderSafeInsertOneByteSpec : ChangeSpec := { name := "fnIsHeaderSafeInsertOneByte", fn := fun _ => fun
  | [d1, d2, d3] => { results := [.lit (.bool true)], args := [d1, d2, d3] }
  | _ => none }
def fnIsHeaderSafeInsertOneByteRow : OpenClaim := { program := "qxb6627813a", sum := "923e16d4860a927f46563611e49d1833ebebe0a94e77ec14ff4a835c134a233f", func := "example.com/driftline/driftline/zzlaws_pkg_wire_b1.FnIsHeaderSafeInsertOneByte", spec := "fnIsHeaderSafeInsertOneByte", apart := false }
def FnIsHeaderSafeInsertOneByteSaid : Prop := fnIsHeaderSafeInsertOneByteRow.holds Try.pinned (OpenSpec.ofChange fnIsHeaderSafeInsertOneByteSpec)

/-- ITS FALSE NEIGHBOUR: 'it returns false'. Refute it at one input. -/
def fnIsHeaderSafeInsertOneByteWrong : ChangeSpec := { name := "fnIsHeaderSafeInsertOneByte", fn := fun _ => fun
  | [d1, d2, d3] => { results := [.lit (.bool false)], args := [d1, d2, d3] }
  | _ => none }
def FnIsHeaderSafeInsertOneByteWrongFalsely : Prop := fnIsHeaderSafeInsertOneByteRow.holds Try.pinned (OpenSpec.ofChange fnIsHeaderSafeInsertOneByteWrong)

end Rows
end Go.Proofs.Qxb6627813a
