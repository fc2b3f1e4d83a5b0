/-
  NARROWER THAN 'FOR EVERY INPUT', by the rows' own cells (each row's printed sentence says how): FnRefuseNamesNearestWrittenLine: maps · FnRefuseUnwrittenChildTakesParentsLine: maps.
  DERIVED. THE GIVEN ROWS OF THIS SEAT. 2 by the template 'for every input the law returns true; each argument reads behind the call as it read before'; 0 by the template 'total and deterministic' (their statements: Qxb6604660aTotals.lean).
  GIVEN WITH THE SEED: the statements are not yours to turn. If you find one false, say at which input.
  Laid BY PROGRAM, IN A SANDBOX (cutbox-rows.mjs): the forced cells as the released guide's own fill.sh prints them over the translation 112f3aabe4e7e735… (all of the seat's roots in one cut). By AI agents, Wed Nov 11 2026. No macro, syntax, notation, axiom, sorry.
-/
import Derived.Test.Qxb6604660aChecked
import GoSem.Claim
import GoSem.ClaimJoined
import GoSem.ClaimMapViews
import Derived.JoinedTies
import Derived.KernelRfl
namespace Go.Proofs.Qxb6604660a
/- THE CELL 'sum', in the pinned program and in every row, IS THE sha256 OF THE DUMP (.gsa) THAT Qxb6604660aProg.lean LOADS. Nothing in Lean hashes anything: it is a label: what it is worth is what the hold of that sum in a sandbox is worth. -/
noncomputable def Try.pinned : Pinned := { name := "qxb6604660a", sum := "112f3aabe4e7e73507c19cebcba4984993399a3f75b94fcf55af13768ff3d6ac", checked := Try.checked }
namespace Rows
def none {H : Type} : Left H := { results := [], args := [] }

/-- 'zzlaws_input_b1.FnRefuseNamesNearestWrittenLine': WHATEVER THE INPUT: true; the input reads as it did. -/
def fnRefuseNamesNearestWrittenLineSpec : ChangeSpec := { name := "fnRefuseNamesNearestWrittenLine", fn := fun _ => fun
  | [d1, d2, d3, d4] => { results := [.lit (.bool true)], args := [d1, d2, d3, d4] }
  | _ => none }
def fnRefuseNamesNearestWrittenLineRow : OpenClaim := { program := "qxb6604660a", sum := "112f3aabe4e7e73507c19cebcba4984993399a3f75b94fcf55af13768ff3d6ac", func := "example.com/anchorhold/anchorhold/zzlaws_input_b1.FnRefuseNamesNearestWrittenLine", spec := "fnRefuseNamesNearestWrittenLine", maps := true, apart := false }
def FnRefuseNamesNearestWrittenLineSaid : Prop := fnRefuseNamesNearestWrittenLineRow.holds Try.pinned (OpenSpec.ofChange fnRefuseNamesNearestWrittenLineSpec)

/-- ITS FALSE NEIGHBOUR: 'it returns false'. Refute it at one input. -/
def fnRefuseNamesNearestWrittenLineWrong : ChangeSpec := { name := "fnRefuseNamesNearestWrittenLine", fn := fun _ => fun
  | [d1, d2, d3, d4] => { results := [.lit (.bool false)], args := [d1, d2, d3, d4] }
  | _ => none }
def FnRefuseNamesNearestWrittenLineWrongFalsely : Prop := fnRefuseNamesNearestWrittenLineRow.holds Try.pinned (OpenSpec.ofChange fnRefuseNamesNearestWrittenLineWrong)

/-- 'zzlaws_input_b1.FnRefuseUnwrittenChildTakesParentsLine': WHATEVER THE INPUT: true; the input reads as it did. -/
def fnRefuseUnwrittenChildTakesParentsLineSpec : ChangeSpec := { name := "fnRefuseUnwrittenChildTakesParentsLine", fn := fun _ => fun
  | [d1, d2, d3, d4, d5] => { results := [.lit (.bool true)], args := [d1, d2, d3, d4, d5] }
  | _ => none }
def fnRefuseUnwrittenChildTakesParentsLineRow : OpenClaim := { program := "qxb6604660a", sum := "112f3aabe4e7e73507c19cebcba4984993399a3f75b94fcf55af13768ff3d6ac", func := "example.com/anchorhold/anchorhold/zzlaws_input_b1.FnRefuseUnwrittenChildTakesParentsLine", spec := "fnRefuseUnwrittenChildTakesParentsLine", maps := true, apart := false }
def FnRefuseUnwrittenChildTakesParentsLineSaid : Prop := fnRefuseUnwrittenChildTakesParentsLineRow.holds Try.pinned (OpenSpec.ofChange fnRefuseUnwrittenChildTakesParentsLineSpec)

/-- ITS FALSE NEIGHBOUR: 'it returns false'. Refute it at one input. -/
def fnRefuseUnwrittenChildTakesParentsLineWrong : ChangeSpec := { name := "fnRefuseUnwrittenChildTakesParentsLine", fn := fun _ => fun
  | [d1, d2, d3, d4, d5] => { results := [.lit (.bool false)], args := [d1, d2, d3, d4, d5] }
  | _ => none }
def FnRefuseUnwrittenChildTakesParentsLineWrongFalsely : Prop := fnRefuseUnwrittenChildTakesParentsLineRow.holds Try.pinned (OpenSpec.ofChange fnRefuseUnwrittenChildTakesParentsLineWrong)

end Rows
end Go.Proofs.Qxb6604660a
