/-
  No cell of these rows narrows 'for every input' (looked for: loops, veiled, ifaces, maps, wideKeys, modest, calm, conditions, laid).
  DERIVED. THE GIVEN ROWS OF THIS SEAT. 2 by the template 'for every input the law returns true; each argument reads behind the call as it read before'; 0 by the template 'total and deterministic' (their statements: Qxb6627852aTotals.lean).
  GIVEN WITH THE SEED: the statements are not yours to turn. If you find one false, say at which input.
  Laid BY PROGRAM, IN A SANDBOX (cutbox-rows.mjs): the forced cells as the released guide's own fill.sh prints them over the translation de08080ad4957edb… (all of the seat's roots in one cut). By AI agents, Wed Nov 11 2026. No macro, syntax, notation, axiom, sorry.
-/
import Derived.Test.Qxb6627852aChecked
import GoSem.Claim
import GoSem.ClaimJoined
import GoSem.ClaimMapViews
import Derived.JoinedTies
import Derived.KernelRfl
namespace Go.Proofs.Qxb6627852a
/- THE CELL 'sum', in the pinned program and in every row, IS THE sha256 OF THE DUMP (.gsa) THAT Qxb6627852aProg.lean LOADS. Nothing in Lean hashes anything: it is a label: what it is worth is what the hold of that sum in a sandbox is worth. -/
noncomputable def Try.pinned : Pinned := { name := "qxb6627852a", sum := "de08080ad4957edb3914dc8ccb26cf0f7fc635cac439f10957e1fb97d013e8d7", checked := Try.checked }
namespace Rows
def none {H : Type} : Left H := { results := [], args := [] }

/-- 'zzlaws_internal_tomltext_b1.FnAddAppendsFreshSlotsThatKeepWhatIsFilledIn': WHATEVER THE INPUT: true; the input reads as it did. -/
def fnAddAppendsFreshSlotsThatKeepWhatIsFilledInSpec : ChangeSpec := { name := "fnAddAppendsFreshSlotsThatKeepWhatIsFilledIn", fn := fun _ => fun
  | [d] => { results := [.lit (.bool true)], args := [d] }
  | _ => none }
def fnAddAppendsFreshSlotsThatKeepWhatIsFilledInRow : OpenClaim := { program := "qxb6627852a", sum := "de08080ad4957edb3914dc8ccb26cf0f7fc635cac439f10957e1fb97d013e8d7", func := "example.com/wary-config/wary-config/zzlaws_internal_tomltext_b1.FnAddAppendsFreshSlotsThatKeepWhatIsFilledIn", spec := "fnAddAppendsFreshSlotsThatKeepWhatIsFilledIn", apart := false }
def FnAddAppendsFreshSlotsThatKeepWhatIsFilledInSaid : Prop := fnAddAppendsFreshSlotsThatKeepWhatIsFilledInRow.holds Try.pinned (OpenSpec.ofChange fnAddAppendsFreshSlotsThatKeepWhatIsFilledInSpec)

/-- ITS FALSE NEIGHBOUR: 'it returns false'. Refute it at one input. -/
def fnAddAppendsFreshSlotsThatKeepWhatIsFilledInWrong : ChangeSpec := { name := "fnAddAppendsFreshSlotsThatKeepWhatIsFilledIn", fn := fun _ => fun
  | [d] => { results := [.lit (.bool false)], args := [d] }
  | _ => none }
def FnAddAppendsFreshSlotsThatKeepWhatIsFilledInWrongFalsely : Prop := fnAddAppendsFreshSlotsThatKeepWhatIsFilledInRow.holds Try.pinned (OpenSpec.ofChange fnAddAppendsFreshSlotsThatKeepWhatIsFilledInWrong)

/-- 'zzlaws_internal_tomltext_b1.FnAddKeepsOrderFlagAndIndex': WHATEVER THE INPUT: true; the input reads as it did. -/
def fnAddKeepsOrderFlagAndIndexSpec : ChangeSpec := { name := "fnAddKeepsOrderFlagAndIndex", fn := fun _ => fun
  | [d] => { results := [.lit (.bool true)], args := [d] }
  | _ => none }
def fnAddKeepsOrderFlagAndIndexRow : OpenClaim := { program := "qxb6627852a", sum := "de08080ad4957edb3914dc8ccb26cf0f7fc635cac439f10957e1fb97d013e8d7", func := "example.com/wary-config/wary-config/zzlaws_internal_tomltext_b1.FnAddKeepsOrderFlagAndIndex", spec := "fnAddKeepsOrderFlagAndIndex", apart := false }
def FnAddKeepsOrderFlagAndIndexSaid : Prop := fnAddKeepsOrderFlagAndIndexRow.holds Try.pinned (OpenSpec.ofChange fnAddKeepsOrderFlagAndIndexSpec)

/-- ITS FALSE NEIGHBOUR: 'it returns false'. Refute it at one input. -/
def fnAddKeepsOrderFlagAndIndexWrong : ChangeSpec := { name := "fnAddKeepsOrderFlagAndIndex", fn := fun _ => fun
  | [d] => { results := [.lit (.bool false)], args := [d] }
  | _ => none }
def FnAddKeepsOrderFlagAndIndexWrongFalsely : Prop := fnAddKeepsOrderFlagAndIndexRow.holds Try.pinned (OpenSpec.ofChange fnAddKeepsOrderFlagAndIndexWrong)

end Rows
end Go.Proofs.Qxb6627852a
