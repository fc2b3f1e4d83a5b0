/-
  NARROWER THAN 'FOR EVERY INPUT', by the rows' own cells (each row's printed sentence says how): FnPartAnyFindsAdditionalAccrual: loops · FnPartAnyFindsUncitedPartWhateverItsList: loops.
  DERIVED. THE GIVEN ROWS OF THIS SEAT. 4 by the template 'for every input the law returns true; each argument reads behind the call as it read before'; 0 by the template 'total and deterministic' (their statements: Qxb6604731aTotals.lean).
  GIVEN WITH THE SEED: the statements are not yours to turn. If you find one false, say at which input.
  Laid BY PROGRAM, IN A SANDBOX (cutbox-rows.mjs): the forced cells as the released guide's own fill.sh prints them over the translation 78c78d11b6d5b35f… (all of the seat's roots in one cut). By AI agents, Wed Nov 11 2026. No macro, syntax, notation, axiom, sorry.
-/
import Derived.Test.Qxb6604731aChecked
import GoSem.Claim
import GoSem.ClaimJoined
import GoSem.ClaimMapViews
import Derived.JoinedTies
import Derived.KernelRfl
namespace Go.Proofs.Qxb6604731a
/- THE CELL 'sum', in the pinned program and in every row, IS THE sha256 OF THE DUMP (.gsa) THAT Qxb6604731aProg.lean LOADS. Nothing in Lean hashes anything: it is a label: what it is worth is what the hold of that sum in a sandbox is worth. -/
noncomputable def Try.pinned : Pinned := { name := "qxb6604731a", sum := "78c78d11b6d5b35f2111fe09c779988b94f6789c4a99c5a88b165688a071e5c8", checked := Try.checked }
namespace Rows
def none {H : Type} : Left H := { results := [], args := [] }

/-- 'zzlaws_internal_plan_b1.FnPartAnyFindsAdditionalAccrual': WHATEVER THE INPUT: true; the input reads as it did. -/
def fnPartAnyFindsAdditionalAccrualSpec : ChangeSpec := { name := "fnPartAnyFindsAdditionalAccrual", fn := fun _ => fun
  | [d] => { results := [.lit (.bool true)], args := [d] }
  | _ => none }
def fnPartAnyFindsAdditionalAccrualRow : OpenClaim := { program := "qxb6604731a", sum := "78c78d11b6d5b35f2111fe09c779988b94f6789c4a99c5a88b165688a071e5c8", func := "example.com/vestwright/vestwright/zzlaws_internal_plan_b1.FnPartAnyFindsAdditionalAccrual", spec := "fnPartAnyFindsAdditionalAccrual", unfollowed := true, recurses := true, loops := true, apart := false }
def FnPartAnyFindsAdditionalAccrualSaid : Prop := fnPartAnyFindsAdditionalAccrualRow.holds Try.pinned (OpenSpec.ofChange fnPartAnyFindsAdditionalAccrualSpec)

/-- ITS FALSE NEIGHBOUR: 'it returns false'. Refute it at one input. -/
def fnPartAnyFindsAdditionalAccrualWrong : ChangeSpec := { name := "fnPartAnyFindsAdditionalAccrual", fn := fun _ => fun
  | [d] => { results := [.lit (.bool false)], args := [d] }
  | _ => none }
def FnPartAnyFindsAdditionalAccrualWrongFalsely : Prop := fnPartAnyFindsAdditionalAccrualRow.holds Try.pinned (OpenSpec.ofChange fnPartAnyFindsAdditionalAccrualWrong)

/-- 'zzlaws_internal_plan_b1.FnPartAnyFindsUncitedPartWhateverItsList': WHATEVER THE INPUT: true; the input reads as it did. -/
def fnPartAnyFindsUncitedPartWhateverItsListSpec : ChangeSpec := { name := "fnPartAnyFindsUncitedPartWhateverItsList", fn := fun _ => fun
  | [d] => { results := [.lit (.bool true)], args := [d] }
  | _ => none }
def fnPartAnyFindsUncitedPartWhateverItsListRow : OpenClaim := { program := "qxb6604731a", sum := "78c78d11b6d5b35f2111fe09c779988b94f6789c4a99c5a88b165688a071e5c8", func := "example.com/vestwright/vestwright/zzlaws_internal_plan_b1.FnPartAnyFindsUncitedPartWhateverItsList", spec := "fnPartAnyFindsUncitedPartWhateverItsList", unfollowed := true, recurses := true, loops := true, apart := false }
def FnPartAnyFindsUncitedPartWhateverItsListSaid : Prop := fnPartAnyFindsUncitedPartWhateverItsListRow.holds Try.pinned (OpenSpec.ofChange fnPartAnyFindsUncitedPartWhateverItsListSpec)

/-- ITS FALSE NEIGHBOUR: 'it returns false'. Refute it at one input. -/
def fnPartAnyFindsUncitedPartWhateverItsListWrong : ChangeSpec := { name := "fnPartAnyFindsUncitedPartWhateverItsList", fn := fun _ => fun
  | [d] => { results := [.lit (.bool false)], args := [d] }
  | _ => none }
def FnPartAnyFindsUncitedPartWhateverItsListWrongFalsely : Prop := fnPartAnyFindsUncitedPartWhateverItsListRow.holds Try.pinned (OpenSpec.ofChange fnPartAnyFindsUncitedPartWhateverItsListWrong)

/-- 'zzlaws_internal_plan_b1.FnNormalRetirementAgeLeastIsLeastOfItsAges': WHATEVER THE INPUT: true; the input reads as it did. -/
def fnNormalRetirementAgeLeastIsLeastOfItsAgesSpec : ChangeSpec := { name := "fnNormalRetirementAgeLeastIsLeastOfItsAges", fn := fun _ => fun
  | [d1, d2] => { results := [.lit (.bool true)], args := [d1, d2] }
  | _ => none }
def fnNormalRetirementAgeLeastIsLeastOfItsAgesRow : OpenClaim := { program := "qxb6604731a", sum := "78c78d11b6d5b35f2111fe09c779988b94f6789c4a99c5a88b165688a071e5c8", func := "example.com/vestwright/vestwright/zzlaws_internal_plan_b1.FnNormalRetirementAgeLeastIsLeastOfItsAges", spec := "fnNormalRetirementAgeLeastIsLeastOfItsAges", unfollowed := true, recurses := true, apart := false }
def FnNormalRetirementAgeLeastIsLeastOfItsAgesSaid : Prop := fnNormalRetirementAgeLeastIsLeastOfItsAgesRow.holds Try.pinned (OpenSpec.ofChange fnNormalRetirementAgeLeastIsLeastOfItsAgesSpec)

/-- ITS FALSE NEIGHBOUR: 'it returns false'. Refute it at one input. -/
def fnNormalRetirementAgeLeastIsLeastOfItsAgesWrong : ChangeSpec := { name := "fnNormalRetirementAgeLeastIsLeastOfItsAges", fn := fun _ => fun
  | [d1, d2] => { results := [.lit (.bool false)], args := [d1, d2] }
  | _ => none }
def FnNormalRetirementAgeLeastIsLeastOfItsAgesWrongFalsely : Prop := fnNormalRetirementAgeLeastIsLeastOfItsAgesRow.holds Try.pinned (OpenSpec.ofChange fnNormalRetirementAgeLeastIsLeastOfItsAgesWrong)

/-- 'zzlaws_internal_plan_b1.FnNormalRetirementAgeLeastSplitsOverVersions': WHATEVER THE INPUT: true; the input reads as it did. -/
def fnNormalRetirementAgeLeastSplitsOverVersionsSpec : ChangeSpec := { name := "fnNormalRetirementAgeLeastSplitsOverVersions", fn := fun _ => fun
  | [d1, d2, d3, d4] => { results := [.lit (.bool true)], args := [d1, d2, d3, d4] }
  | _ => none }
def fnNormalRetirementAgeLeastSplitsOverVersionsRow : OpenClaim := { program := "qxb6604731a", sum := "78c78d11b6d5b35f2111fe09c779988b94f6789c4a99c5a88b165688a071e5c8", func := "example.com/vestwright/vestwright/zzlaws_internal_plan_b1.FnNormalRetirementAgeLeastSplitsOverVersions", spec := "fnNormalRetirementAgeLeastSplitsOverVersions", unfollowed := true, recurses := true, apart := false }
def FnNormalRetirementAgeLeastSplitsOverVersionsSaid : Prop := fnNormalRetirementAgeLeastSplitsOverVersionsRow.holds Try.pinned (OpenSpec.ofChange fnNormalRetirementAgeLeastSplitsOverVersionsSpec)

/-- ITS FALSE NEIGHBOUR: 'it returns false'. Refute it at one input. -/
def fnNormalRetirementAgeLeastSplitsOverVersionsWrong : ChangeSpec := { name := "fnNormalRetirementAgeLeastSplitsOverVersions", fn := fun _ => fun
  | [d1, d2, d3, d4] => { results := [.lit (.bool false)], args := [d1, d2, d3, d4] }
  | _ => none }
def FnNormalRetirementAgeLeastSplitsOverVersionsWrongFalsely : Prop := fnNormalRetirementAgeLeastSplitsOverVersionsRow.holds Try.pinned (OpenSpec.ofChange fnNormalRetirementAgeLeastSplitsOverVersionsWrong)

end Rows
end Go.Proofs.Qxb6604731a
