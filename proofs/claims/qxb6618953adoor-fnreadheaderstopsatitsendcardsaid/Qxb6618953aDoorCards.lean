/-
  DERIVED. GIVEN WITH THE SEED: THE CARDS: each row of Qxb6618953aDoorRows.lean that lists a variable, with what it lists TIED to the program's text (the seventh form; the later family's looks); each row that meets fmt, with fmt's text TOLD by the authors' own Lean function (tested against real Go, not proved from fmt's source: count such statements apart). THE CARD IS WHAT COUNTS. Prove the row's statement (the work); the ties are given (Qxb6618953aDoorTie.lean); close each card by the builder's one call (the guide's Derived/Test/ToyasCard.lean, 'card_holds'). Laid BY PROGRAM, IN A SANDBOX (cutbox-door.mjs). By AI agents, Wed Nov 11 2026. No macro, syntax, notation, axiom, sorry.
-/
import Derived.Test.Qxb6618953aDoorRows
import GoSem.ClaimSeven
namespace Go.Proofs.Qxb6618953aDoor
namespace Rows

/-- THE TIED CARD OF 'zzlaws_root_b1.FnReadHeaderByLayout'. -/
def fnReadHeaderByLayoutCard : Claim7 := { stood := { row := fnReadHeaderByLayoutRow, standIns := [], harness := (true, "1ac5bb67a3c6260504fdd4f63ee2a240c275328f160d5af521ec55cb8304773e"), looks := true }, kinds := [], alts := [], laidByText := true, laidKinds := [.sentinel, .sentinel, .sentinel, .widerDeep], laidTests := true, laidLooks := .later }
def FnReadHeaderByLayoutCardSaid : Prop := Claim7.holds Tryd.pinned (.plain (OpenSpec.ofChange fnReadHeaderByLayoutSpec)) fnReadHeaderByLayoutCard

/-- THE TIED CARD OF 'zzlaws_root_b1.FnReadHeaderStopsAtItsEnd'. -/
def fnReadHeaderStopsAtItsEndCard : Claim7 := { stood := { row := fnReadHeaderStopsAtItsEndRow, standIns := [], harness := (true, "1ac5bb67a3c6260504fdd4f63ee2a240c275328f160d5af521ec55cb8304773e"), looks := true }, kinds := [], alts := [], laidByText := true, laidKinds := [.sentinel, .sentinel, .sentinel, .widerDeep], laidTests := true, laidLooks := .later }
def FnReadHeaderStopsAtItsEndCardSaid : Prop := Claim7.holds Tryd.pinned (.plain (OpenSpec.ofChange fnReadHeaderStopsAtItsEndSpec)) fnReadHeaderStopsAtItsEndCard
end Rows
end Go.Proofs.Qxb6618953aDoor
