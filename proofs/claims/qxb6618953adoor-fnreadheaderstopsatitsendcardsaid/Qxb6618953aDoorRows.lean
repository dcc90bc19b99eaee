/-
  NARROWER THAN 'FOR EVERY INPUT', by the rows' own cells (each row's printed sentence says how): FnReadHeaderByLayout: laid · FnReadHeaderStopsAtItsEnd: laid.
  DERIVED. THE GIVEN ROWS OF THIS SEAT. 2 by the template 'for every input the law returns true; each argument reads behind the call as it read before'; 0 by the template 'total and deterministic' (their statements: Qxb6618953aDoorTotals.lean).
  GIVEN WITH THE SEED: the statements are not yours to turn. If you find one false, say at which input.
  Laid BY PROGRAM, IN A SANDBOX (cutbox-rows.mjs): the forced cells as the released guide's own fill.sh prints them over the translation 3d2f821950576ff7… (all of the seat's roots in one cut). By AI agents, Wed Nov 11 2026. No macro, syntax, notation, axiom, sorry.
-/
import Derived.Test.Qxb6618953aDoorChecked
import GoSem.Claim
import GoSem.ClaimJoined
import GoSem.ClaimMapViews
import Derived.JoinedTies
import Derived.KernelRfl
namespace Go.Proofs.Qxb6618953aDoor
/- THE CELL 'sum', in the pinned program and in every row, IS THE sha256 OF THE DUMP (.gsa) THAT Qxb6618953aDoorProg.lean LOADS. Nothing in Lean hashes anything: it is a label: what it is worth is what the hold of that sum in a sandbox is worth. -/
noncomputable def Tryd.pinned : Pinned := { name := "qxb6618953adoor", sum := "3d2f821950576ff711388f59b152021727f01f9c845cd79b479067783adfcc3b", checked := Tryd.checked }
namespace Rows
def none {H : Type} : Left H := { results := [], args := [] }

/- WHAT THE LISTED PACKAGE-LEVEL VARIABLES READ AS WHEN THE CALL BEGINS. Each datum BY PROGRAM (the guide's laid-datum.mjs) off the statement by which the dump's own 'gosem.cut.vars' lays the variable. In a bare row this is a premise. The card (Qxb6618953aDoorCards.lean) ties it to the program's text. -/
def laid_io_ErrShortBuffer {H : Type} : DataW H := .iface "*errors.errorString" (.ptr (.agg [.lit (.string [115, 104, 111, 114, 116, 32, 98, 117, 102, 102, 101, 114])]))
def laid_io_EOF {H : Type} : DataW H := .iface "*errors.errorString" (.ptr (.agg [.lit (.string [69, 79, 70])]))
def laid_io_ErrUnexpectedEOF {H : Type} : DataW H := .iface "*errors.errorString" (.ptr (.agg [.lit (.string [117, 110, 101, 120, 112, 101, 99, 116, 101, 100, 32, 69, 79, 70])]))
def laid_example_com_cinch_cinch_signature {H : Type} : DataW H := .slice [.lit (.int .u8 137), .lit (.int .u8 67), .lit (.int .u8 73), .lit (.int .u8 78), .lit (.int .u8 67), .lit (.int .u8 72), .lit (.int .u8 13), .lit (.int .u8 10)] []

/-- 'zzlaws_root_b1.FnReadHeaderByLayout': WHATEVER THE INPUT: true; the input reads as it did. -/
def fnReadHeaderByLayoutSpec : ChangeSpec := { name := "fnReadHeaderByLayout", vars := ["example.com/cinch/cinch._signature"], fn := fun _ => fun
  | [d, g1] => { results := [.lit (.bool true)], args := [d], vars := [g1] }
  | _ => none }
def fnReadHeaderByLayoutRow : OpenClaim := { program := "qxb6618953adoor", sum := "3d2f821950576ff711388f59b152021727f01f9c845cd79b479067783adfcc3b", func := "example.com/cinch/cinch/zzlaws_root_b1.FnReadHeaderByLayout", spec := "fnReadHeaderByLayout", unfollowed := true, recurses := true, named := ["example.com/cinch/cinch._signature", "encoding/binary.BigEndian", "io.ErrShortBuffer", "io.EOF", "io.ErrUnexpectedEOF"], apart := false, laid := [("io.ErrShortBuffer", laid_io_ErrShortBuffer), ("io.EOF", laid_io_EOF), ("io.ErrUnexpectedEOF", laid_io_ErrUnexpectedEOF), ("example.com/cinch/cinch._signature", laid_example_com_cinch_cinch_signature)] }
def FnReadHeaderByLayoutSaid : Prop := fnReadHeaderByLayoutRow.holds Tryd.pinned (OpenSpec.ofChange fnReadHeaderByLayoutSpec)

/-- ITS FALSE NEIGHBOUR: 'it returns false'. Refute it at one input. -/
def fnReadHeaderByLayoutWrong : ChangeSpec := { name := "fnReadHeaderByLayout", vars := ["example.com/cinch/cinch._signature"], fn := fun _ => fun
  | [d, g1] => { results := [.lit (.bool false)], args := [d], vars := [g1] }
  | _ => none }
def FnReadHeaderByLayoutWrongFalsely : Prop := fnReadHeaderByLayoutRow.holds Tryd.pinned (OpenSpec.ofChange fnReadHeaderByLayoutWrong)

/-- 'zzlaws_root_b1.FnReadHeaderStopsAtItsEnd': WHATEVER THE INPUT: true; the input reads as it did. -/
def fnReadHeaderStopsAtItsEndSpec : ChangeSpec := { name := "fnReadHeaderStopsAtItsEnd", vars := ["example.com/cinch/cinch._signature"], fn := fun _ => fun
  | [d1, d2, d3, g1] => { results := [.lit (.bool true)], args := [d1, d2, d3], vars := [g1] }
  | _ => none }
def fnReadHeaderStopsAtItsEndRow : OpenClaim := { program := "qxb6618953adoor", sum := "3d2f821950576ff711388f59b152021727f01f9c845cd79b479067783adfcc3b", func := "example.com/cinch/cinch/zzlaws_root_b1.FnReadHeaderStopsAtItsEnd", spec := "fnReadHeaderStopsAtItsEnd", unfollowed := true, recurses := true, named := ["example.com/cinch/cinch._signature", "encoding/binary.BigEndian", "io.ErrShortBuffer", "io.EOF", "io.ErrUnexpectedEOF"], apart := false, laid := [("io.ErrShortBuffer", laid_io_ErrShortBuffer), ("io.EOF", laid_io_EOF), ("io.ErrUnexpectedEOF", laid_io_ErrUnexpectedEOF), ("example.com/cinch/cinch._signature", laid_example_com_cinch_cinch_signature)] }
def FnReadHeaderStopsAtItsEndSaid : Prop := fnReadHeaderStopsAtItsEndRow.holds Tryd.pinned (OpenSpec.ofChange fnReadHeaderStopsAtItsEndSpec)

/-- ITS FALSE NEIGHBOUR: 'it returns false'. Refute it at one input. -/
def fnReadHeaderStopsAtItsEndWrong : ChangeSpec := { name := "fnReadHeaderStopsAtItsEnd", vars := ["example.com/cinch/cinch._signature"], fn := fun _ => fun
  | [d1, d2, d3, g1] => { results := [.lit (.bool false)], args := [d1, d2, d3], vars := [g1] }
  | _ => none }
def FnReadHeaderStopsAtItsEndWrongFalsely : Prop := fnReadHeaderStopsAtItsEndRow.holds Tryd.pinned (OpenSpec.ofChange fnReadHeaderStopsAtItsEndWrong)

end Rows
end Go.Proofs.Qxb6618953aDoor
