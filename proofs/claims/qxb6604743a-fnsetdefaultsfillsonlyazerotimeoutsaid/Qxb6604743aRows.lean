/-
  No cell of these rows narrows 'for every input' (looked for: loops, veiled, ifaces, maps, wideKeys, modest, calm, conditions, laid).
  DERIVED. THE GIVEN ROWS OF THIS SEAT. 2 by the template 'for every input the law returns true; each argument reads behind the call as it read before'; 0 by the template 'total and deterministic' (their statements: Qxb6604743aTotals.lean).
  GIVEN WITH THE SEED: the statements are not yours to turn. If you find one false, say at which input.
  Laid BY PROGRAM, IN A SANDBOX (cutbox-rows.mjs): the forced cells as the released guide's own fill.sh prints them over the translation be8752082584ffc6… (all of the seat's roots in one cut). By AI agents, Wed Nov 11 2026. No macro, syntax, notation, axiom, sorry.
-/
import Derived.Test.Qxb6604743aChecked
import GoSem.Claim
import GoSem.ClaimJoined
import GoSem.ClaimMapViews
import Derived.JoinedTies
import Derived.KernelRfl
namespace Go.Proofs.Qxb6604743a
/- THE CELL 'sum', in the pinned program and in every row, IS THE sha256 OF THE DUMP (.gsa) THAT Qxb6604743aProg.lean LOADS. Nothing in Lean hashes anything: it is a label: what it is worth is what the hold of that sum in a sandbox is worth. -/
noncomputable def Try.pinned : Pinned := { name := "qxb6604743a", sum := "be8752082584ffc677607594066356b5298e30c177c993549da8fcb40b1b8dfe", checked := Try.checked }
namespace Rows
def none {H : Type} : Left H := { results := [], args := [] }

/-- 'zzlaws_internal_mcp_b1.FnSetDefaultsFillsOnlyAZeroTimeout': WHATEVER THE INPUT: true; the input reads as it did. -/
def fnSetDefaultsFillsOnlyAZeroTimeoutSpec : ChangeSpec := { name := "fnSetDefaultsFillsOnlyAZeroTimeout", fn := fun _ => fun
  | [d1, d2, d3, d4, d5, d6, d7, d8, d9] => { results := [.lit (.bool true)], args := [d1, d2, d3, d4, d5, d6, d7, d8, d9] }
  | _ => none }
def fnSetDefaultsFillsOnlyAZeroTimeoutRow : OpenClaim := { program := "qxb6604743a", sum := "be8752082584ffc677607594066356b5298e30c177c993549da8fcb40b1b8dfe", func := "example.com/loopwright/loopwright/zzlaws_internal_mcp_b1.FnSetDefaultsFillsOnlyAZeroTimeout", spec := "fnSetDefaultsFillsOnlyAZeroTimeout", apart := false }
def FnSetDefaultsFillsOnlyAZeroTimeoutSaid : Prop := fnSetDefaultsFillsOnlyAZeroTimeoutRow.holds Try.pinned (OpenSpec.ofChange fnSetDefaultsFillsOnlyAZeroTimeoutSpec)

/-- ITS FALSE NEIGHBOUR: 'it returns false'. Refute it at one input. -/
def fnSetDefaultsFillsOnlyAZeroTimeoutWrong : ChangeSpec := { name := "fnSetDefaultsFillsOnlyAZeroTimeout", fn := fun _ => fun
  | [d1, d2, d3, d4, d5, d6, d7, d8, d9] => { results := [.lit (.bool false)], args := [d1, d2, d3, d4, d5, d6, d7, d8, d9] }
  | _ => none }
def FnSetDefaultsFillsOnlyAZeroTimeoutWrongFalsely : Prop := fnSetDefaultsFillsOnlyAZeroTimeoutRow.holds Try.pinned (OpenSpec.ofChange fnSetDefaultsFillsOnlyAZeroTimeoutWrong)

/-- 'zzlaws_internal_mcp_b1.FnSetDefaultsIdentifiesZeroWithDefault': WHATEVER THE INPUT: true; the input reads as it did. -/
def fnSetDefaultsIdentifiesZeroWithDefaultSpec : ChangeSpec := { name := "fnSetDefaultsIdentifiesZeroWithDefault", fn := fun _ => fun
  | [d1, d2] => { results := [.lit (.bool true)], args := [d1, d2] }
  | _ => none }
def fnSetDefaultsIdentifiesZeroWithDefaultRow : OpenClaim := { program := "qxb6604743a", sum := "be8752082584ffc677607594066356b5298e30c177c993549da8fcb40b1b8dfe", func := "example.com/loopwright/loopwright/zzlaws_internal_mcp_b1.FnSetDefaultsIdentifiesZeroWithDefault", spec := "fnSetDefaultsIdentifiesZeroWithDefault", apart := false }
def FnSetDefaultsIdentifiesZeroWithDefaultSaid : Prop := fnSetDefaultsIdentifiesZeroWithDefaultRow.holds Try.pinned (OpenSpec.ofChange fnSetDefaultsIdentifiesZeroWithDefaultSpec)

/-- ITS FALSE NEIGHBOUR: 'it returns false'. Refute it at one input. -/
def fnSetDefaultsIdentifiesZeroWithDefaultWrong : ChangeSpec := { name := "fnSetDefaultsIdentifiesZeroWithDefault", fn := fun _ => fun
  | [d1, d2] => { results := [.lit (.bool false)], args := [d1, d2] }
  | _ => none }
def FnSetDefaultsIdentifiesZeroWithDefaultWrongFalsely : Prop := fnSetDefaultsIdentifiesZeroWithDefaultRow.holds Try.pinned (OpenSpec.ofChange fnSetDefaultsIdentifiesZeroWithDefaultWrong)

end Rows
end Go.Proofs.Qxb6604743a
