/-
  No cell of these rows narrows 'for every input' (looked for: loops, veiled, ifaces, maps, wideKeys, modest, calm, conditions, laid).
  DERIVED. THE GIVEN ROWS OF THIS SEAT. 3 by the template 'for every input the law returns true; each argument reads behind the call as it read before'; 0 by the template 'total and deterministic' (their statements: Qxb6618928aTotals.lean).
  GIVEN WITH THE SEED: the statements are not yours to turn. If you find one false, say at which input.
  Laid BY PROGRAM, IN A SANDBOX (cutbox-rows.mjs): the forced cells as the released guide's own fill.sh prints them over the translation 3a2015a0a936e437… (all of the seat's roots in one cut). By AI agents, Wed Nov 11 2026. No macro, syntax, notation, axiom, sorry.
-/
import Derived.Test.Qxb6618928aChecked
import GoSem.Claim
import GoSem.ClaimJoined
import GoSem.ClaimMapViews
import Derived.JoinedTies
import Derived.KernelRfl
namespace Go.Proofs.Qxb6618928a
/- THE CELL 'sum', in the pinned program and in every row, IS THE sha256 OF THE DUMP (.gsa) THAT Qxb6618928aProg.lean LOADS. Nothing in Lean hashes anything: it is a label: what it is worth is what the hold of that sum in a sandbox is worth. -/
noncomputable def Try.pinned : Pinned := { name := "qxb6618928a", sum := "3a2015a0a936e4379749e267eb0de60677550b3df3f7edf043fc4d2cc761931c", checked := Try.checked }
namespace Rows
def none {H : Type} : Left H := { results := [], args := [] }

/-- 'zzlaws_root_b1.FnInternedGivesTheTextBack': WHATEVER THE INPUT: true; the input reads as it did. -/
def fnInternedGivesTheTextBackSpec : ChangeSpec := { name := "fnInternedGivesTheTextBack", fn := fun _ => fun
  | [d] => { results := [.lit (.bool true)], args := [d] }
  | _ => none }
def fnInternedGivesTheTextBackRow : OpenClaim := { program := "qxb6618928a", sum := "3a2015a0a936e4379749e267eb0de60677550b3df3f7edf043fc4d2cc761931c", func := "example.com/beforehand/beforehand/zzlaws_root_b1.FnInternedGivesTheTextBack", spec := "fnInternedGivesTheTextBack", apart := false }
def FnInternedGivesTheTextBackSaid : Prop := fnInternedGivesTheTextBackRow.holds Try.pinned (OpenSpec.ofChange fnInternedGivesTheTextBackSpec)

/-- ITS FALSE NEIGHBOUR: 'it returns false'. Refute it at one input. -/
def fnInternedGivesTheTextBackWrong : ChangeSpec := { name := "fnInternedGivesTheTextBack", fn := fun _ => fun
  | [d] => { results := [.lit (.bool false)], args := [d] }
  | _ => none }
def FnInternedGivesTheTextBackWrongFalsely : Prop := fnInternedGivesTheTextBackRow.holds Try.pinned (OpenSpec.ofChange fnInternedGivesTheTextBackWrong)

/-- 'zzlaws_root_b1.FnInternedKeepsEachShortNameOnce': WHATEVER THE INPUT: true; the input reads as it did. -/
def fnInternedKeepsEachShortNameOnceSpec : ChangeSpec := { name := "fnInternedKeepsEachShortNameOnce", fn := fun _ => fun
  | [d] => { results := [.lit (.bool true)], args := [d] }
  | _ => none }
def fnInternedKeepsEachShortNameOnceRow : OpenClaim := { program := "qxb6618928a", sum := "3a2015a0a936e4379749e267eb0de60677550b3df3f7edf043fc4d2cc761931c", func := "example.com/beforehand/beforehand/zzlaws_root_b1.FnInternedKeepsEachShortNameOnce", spec := "fnInternedKeepsEachShortNameOnce", apart := false }
def FnInternedKeepsEachShortNameOnceSaid : Prop := fnInternedKeepsEachShortNameOnceRow.holds Try.pinned (OpenSpec.ofChange fnInternedKeepsEachShortNameOnceSpec)

/-- ITS FALSE NEIGHBOUR: 'it returns false'. Refute it at one input. -/
def fnInternedKeepsEachShortNameOnceWrong : ChangeSpec := { name := "fnInternedKeepsEachShortNameOnce", fn := fun _ => fun
  | [d] => { results := [.lit (.bool false)], args := [d] }
  | _ => none }
def FnInternedKeepsEachShortNameOnceWrongFalsely : Prop := fnInternedKeepsEachShortNameOnceRow.holds Try.pinned (OpenSpec.ofChange fnInternedKeepsEachShortNameOnceWrong)

/-- 'zzlaws_root_b1.FnIsStringDependsOnItsStartByteAlone': WHATEVER THE INPUT: true; the input reads as it did. -/
def fnIsStringDependsOnItsStartByteAloneSpec : ChangeSpec := { name := "fnIsStringDependsOnItsStartByteAlone", fn := fun _ => fun
  | [d1, d2, d3, d4, d5, d6] => { results := [.lit (.bool true)], args := [d1, d2, d3, d4, d5, d6] }
  | _ => none }
def fnIsStringDependsOnItsStartByteAloneRow : OpenClaim := { program := "qxb6618928a", sum := "3a2015a0a936e4379749e267eb0de60677550b3df3f7edf043fc4d2cc761931c", func := "example.com/beforehand/beforehand/zzlaws_root_b1.FnIsStringDependsOnItsStartByteAlone", spec := "fnIsStringDependsOnItsStartByteAlone", apart := false }
def FnIsStringDependsOnItsStartByteAloneSaid : Prop := fnIsStringDependsOnItsStartByteAloneRow.holds Try.pinned (OpenSpec.ofChange fnIsStringDependsOnItsStartByteAloneSpec)

/-- ITS FALSE NEIGHBOUR: 'it returns false'. Refute it at one input. -/
def fnIsStringDependsOnItsStartByteAloneWrong : ChangeSpec := { name := "fnIsStringDependsOnItsStartByteAlone", fn := fun _ => fun
  | [d1, d2, d3, d4, d5, d6] => { results := [.lit (.bool false)], args := [d1, d2, d3, d4, d5, d6] }
  | _ => none }
def FnIsStringDependsOnItsStartByteAloneWrongFalsely : Prop := fnIsStringDependsOnItsStartByteAloneRow.holds Try.pinned (OpenSpec.ofChange fnIsStringDependsOnItsStartByteAloneWrong)

end Rows
end Go.Proofs.Qxb6618928a
