/-
  No cell of these rows narrows 'for every input' (looked for: loops, veiled, ifaces, maps, wideKeys, modest, calm, conditions, laid).
  DERIVED. THE GIVEN ROWS OF THIS SEAT. 2 by the template 'for every input the law returns true; each argument reads behind the call as it read before'; 0 by the template 'total and deterministic' (their statements: Qxb6628166aTotals.lean).
  GIVEN WITH THE SEED: the statements are not yours to turn. If you find one false, say at which input.
  Laid BY PROGRAM, IN A SANDBOX (cutbox-rows.mjs): the forced cells as the released guide's own fill.sh prints them over the translation 841ef9468bcddab0… (all of the seat's roots in one cut). By AI agents, Wed Nov 11 2026. No macro, syntax, notation, axiom, sorry.
-/
import Derived.Test.Qxb6628166aChecked
import GoSem.Claim
import GoSem.ClaimJoined
import GoSem.ClaimMapViews
import Derived.JoinedTies
import Derived.KernelRfl
namespace Go.Proofs.Qxb6628166a
/- THE CELL 'sum', in the pinned program and in every row, IS THE sha256 OF THE DUMP (.gsa) THAT Qxb6628166aProg.lean LOADS. Nothing in Lean hashes anything: it is a label: what it is worth is what the hold of that sum in a sandbox is worth. -/
noncomputable def Try.pinned : Pinned := { name := "qxb6628166a", sum := "841ef9468bcddab0e3fbbf33d7a7e42a4ff7c9f34dd1c9dec5393f1fc5c4cb5f", checked := Try.checked }
namespace Rows
def none {H : Type} : Left H := { results := [], args := [] }

/-- 'zzlaws_root_b1.FnIsUUIDMatchesGroupModel': WHATEVER THE INPUT: true; the input reads as it did. -/
def fnIsUUIDMatchesGroupModelSpec : ChangeSpec := { name := "fnIsUUIDMatchesGroupModel", fn := fun _ => fun
  | [d] => { results := [.lit (.bool true)], args := [d] }
  | _ => none }
def fnIsUUIDMatchesGroupModelRow : OpenClaim := { program := "qxb6628166a", sum := "841ef9468bcddab0e3fbbf33d7a7e42a4ff7c9f34dd1c9dec5393f1fc5c4cb5f", func := "example.com/fieldwise/fieldwise/zzlaws_root_b1.FnIsUUIDMatchesGroupModel", spec := "fnIsUUIDMatchesGroupModel", apart := false }
def FnIsUUIDMatchesGroupModelSaid : Prop := fnIsUUIDMatchesGroupModelRow.holds Try.pinned (OpenSpec.ofChange fnIsUUIDMatchesGroupModelSpec)

/-- ITS FALSE NEIGHBOUR: 'it returns false'. Refute it at one input. -/
def fnIsUUIDMatchesGroupModelWrong : ChangeSpec := { name := "fnIsUUIDMatchesGroupModel", fn := fun _ => fun
  | [d] => { results := [.lit (.bool false)], args := [d] }
  | _ => none }
def FnIsUUIDMatchesGroupModelWrongFalsely : Prop := fnIsUUIDMatchesGroupModelRow.holds Try.pinned (OpenSpec.ofChange fnIsUUIDMatchesGroupModelWrong)

/-- 'zzlaws_root_b1.FnIsUUIDCanonicalTextAndOneByteChange': WHATEVER THE INPUT: true; the input reads as it did. -/
def fnIsUUIDCanonicalTextAndOneByteChangeSpec : ChangeSpec := { name := "fnIsUUIDCanonicalTextAndOneByteChange", fn := fun _ => fun
  | [d1, d2, d3, d4] => { results := [.lit (.bool true)], args := [d1, d2, d3, d4] }
  | _ => none }
def fnIsUUIDCanonicalTextAndOneByteChangeRow : OpenClaim := { program := "qxb6628166a", sum := "841ef9468bcddab0e3fbbf33d7a7e42a4ff7c9f34dd1c9dec5393f1fc5c4cb5f", func := "example.com/fieldwise/fieldwise/zzlaws_root_b1.FnIsUUIDCanonicalTextAndOneByteChange", spec := "fnIsUUIDCanonicalTextAndOneByteChange", apart := false }
def FnIsUUIDCanonicalTextAndOneByteChangeSaid : Prop := fnIsUUIDCanonicalTextAndOneByteChangeRow.holds Try.pinned (OpenSpec.ofChange fnIsUUIDCanonicalTextAndOneByteChangeSpec)

/-- ITS FALSE NEIGHBOUR: 'it returns false'. Refute it at one input. -/
def fnIsUUIDCanonicalTextAndOneByteChangeWrong : ChangeSpec := { name := "fnIsUUIDCanonicalTextAndOneByteChange", fn := fun _ => fun
  | [d1, d2, d3, d4] => { results := [.lit (.bool false)], args := [d1, d2, d3, d4] }
  | _ => none }
def FnIsUUIDCanonicalTextAndOneByteChangeWrongFalsely : Prop := fnIsUUIDCanonicalTextAndOneByteChangeRow.holds Try.pinned (OpenSpec.ofChange fnIsUUIDCanonicalTextAndOneByteChangeWrong)

end Rows
end Go.Proofs.Qxb6628166a
