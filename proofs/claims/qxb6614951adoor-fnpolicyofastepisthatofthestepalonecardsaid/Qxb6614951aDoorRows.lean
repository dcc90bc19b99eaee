/-
  NARROWER THAN 'FOR EVERY INPUT', by the rows' own cells (each row's printed sentence says how): FnPolicyOfAStepIsThatOfTheStepAlone: laid.
  DERIVED. THE GIVEN ROWS OF THIS SEAT. 1 by the template 'for every input the law returns true; each argument reads behind the call as it read before'; 0 by the template 'total and deterministic' (their statements: Qxb6614951aDoorTotals.lean).
  GIVEN WITH THE SEED: the statements are not yours to turn. If you find one false, say at which input.
  Laid BY PROGRAM, IN A SANDBOX (cutbox-rows.mjs): the forced cells as the released guide's own fill.sh prints them over the translation 14c8a79ec45eb840… (all of the seat's roots in one cut). By AI agents, Wed Nov 11 2026. No macro, syntax, notation, axiom, sorry.
-/
import Derived.Test.Qxb6614951aDoorChecked
import GoSem.Claim
import GoSem.ClaimJoined
import GoSem.ClaimMapViews
import Derived.JoinedTies
import Derived.KernelRfl
namespace Go.Proofs.Qxb6614951aDoor
/- THE CELL 'sum', in the pinned program and in every row, IS THE sha256 OF THE DUMP (.gsa) THAT Qxb6614951aDoorProg.lean LOADS. Nothing in Lean hashes anything: it is a label: what it is worth is what the hold of that sum in a sandbox is worth. -/
noncomputable def Tryd.pinned : Pinned := { name := "qxb6614951adoor", sum := "14c8a79ec45eb840dc77eb59b35e7ed327222ea6719137007edfb40d501859d3", checked := Tryd.checked }
namespace Rows
def none {H : Type} : Left H := { results := [], args := [] }

/- WHAT THE LISTED PACKAGE-LEVEL VARIABLES READ AS WHEN THE CALL BEGINS. Each datum BY PROGRAM (the guide's laid-datum.mjs) off the statement by which the dump's own 'gosem.cut.vars' lays the variable. In a bare row this is a premise. The card (Qxb6614951aDoorCards.lean) ties it to the program's text. -/
def laid_example_com_counterstep_counterstep_defaultRetry {H : Type} : DataW H := .agg [.lit (.int .i64 4), .lit (.int .i64 500000000), .lit (.float .f64 0), .lit (.int .i64 0)]

/-- 'zzlaws_root_b1.FnPolicyOfAStepIsThatOfTheStepAlone': WHATEVER THE INPUT: true; the input reads as it did. -/
def fnPolicyOfAStepIsThatOfTheStepAloneSpec : ChangeSpec := { name := "fnPolicyOfAStepIsThatOfTheStepAlone", vars := ["example.com/counterstep/counterstep.defaultRetry"], fn := fun _ => fun
  | [d1, d2, d3, d4, g1] => { results := [.lit (.bool true)], args := [d1, d2, d3, d4], vars := [g1] }
  | _ => none }
def fnPolicyOfAStepIsThatOfTheStepAloneRow : OpenClaim := { program := "qxb6614951adoor", sum := "14c8a79ec45eb840dc77eb59b35e7ed327222ea6719137007edfb40d501859d3", func := "example.com/counterstep/counterstep/zzlaws_root_b1.FnPolicyOfAStepIsThatOfTheStepAlone", spec := "fnPolicyOfAStepIsThatOfTheStepAlone", named := ["example.com/counterstep/counterstep.defaultRetry"], apart := false, laid := [("example.com/counterstep/counterstep.defaultRetry", laid_example_com_counterstep_counterstep_defaultRetry)] }
def FnPolicyOfAStepIsThatOfTheStepAloneSaid : Prop := fnPolicyOfAStepIsThatOfTheStepAloneRow.holds Tryd.pinned (OpenSpec.ofChange fnPolicyOfAStepIsThatOfTheStepAloneSpec)

/-- ITS FALSE NEIGHBOUR: 'it returns false'. Refute it at one input. -/
def fnPolicyOfAStepIsThatOfTheStepAloneWrong : ChangeSpec := { name := "fnPolicyOfAStepIsThatOfTheStepAlone", vars := ["example.com/counterstep/counterstep.defaultRetry"], fn := fun _ => fun
  | [d1, d2, d3, d4, g1] => { results := [.lit (.bool false)], args := [d1, d2, d3, d4], vars := [g1] }
  | _ => none }
def FnPolicyOfAStepIsThatOfTheStepAloneWrongFalsely : Prop := fnPolicyOfAStepIsThatOfTheStepAloneRow.holds Tryd.pinned (OpenSpec.ofChange fnPolicyOfAStepIsThatOfTheStepAloneWrong)

end Rows
end Go.Proofs.Qxb6614951aDoor
