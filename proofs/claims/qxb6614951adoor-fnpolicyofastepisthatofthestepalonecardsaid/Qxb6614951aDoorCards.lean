/-
  DERIVED. GIVEN WITH THE SEED: THE CARDS: each row of Qxb6614951aDoorRows.lean that lists a variable, with what it lists TIED to the program's text (the seventh form; the later family's looks); each row that meets fmt, with fmt's text TOLD by the authors' own Lean function (tested against real Go, not proved from fmt's source: count such statements apart). THE CARD IS WHAT COUNTS. Prove the row's statement (the work); the ties are given (Qxb6614951aDoorTie.lean); close each card by the builder's one call (the guide's Derived/Test/ToyasCard.lean, 'card_holds'). Laid BY PROGRAM, IN A SANDBOX (cutbox-door.mjs). By AI agents, Wed Nov 11 2026. No macro, syntax, notation, axiom, sorry.
-/
import Derived.Test.Qxb6614951aDoorRows
import GoSem.ClaimSeven
namespace Go.Proofs.Qxb6614951aDoor
namespace Rows

/-- THE TIED CARD OF 'zzlaws_root_b1.FnPolicyOfAStepIsThatOfTheStepAlone'. -/
def fnPolicyOfAStepIsThatOfTheStepAloneCard : Claim7 := { stood := { row := fnPolicyOfAStepIsThatOfTheStepAloneRow, standIns := [], harness := (true, "f173cafd9c5772d7dac3689fbfb3ef9efac1bf5ed1cbb4ccd7df00eae0971e5f"), looks := false }, kinds := [], alts := [], laidByText := true, laidKinds := [.data], laidTests := true, laidLooks := .later }
def FnPolicyOfAStepIsThatOfTheStepAloneCardSaid : Prop := Claim7.holds Tryd.pinned (.plain (OpenSpec.ofChange fnPolicyOfAStepIsThatOfTheStepAloneSpec)) fnPolicyOfAStepIsThatOfTheStepAloneCard
end Rows
end Go.Proofs.Qxb6614951aDoor
