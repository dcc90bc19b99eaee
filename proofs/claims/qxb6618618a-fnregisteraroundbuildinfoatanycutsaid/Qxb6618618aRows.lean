/-
  No cell of these rows narrows 'for every input' (looked for: loops, veiled, ifaces, maps, wideKeys, modest, calm, conditions, laid).
  DERIVED. THE GIVEN ROWS OF THIS SEAT. 2 by the template 'for every input the law returns true; each argument reads behind the call as it read before'; 0 by the template 'total and deterministic' (their statements: Qxb6618618aTotals.lean).
  GIVEN WITH THE SEED: the statements are not yours to turn. If you find one false, say at which input.
  Laid BY PROGRAM, IN A SANDBOX (cutbox-rows.mjs): the forced cells as the released guide's own fill.sh prints them over the translation 3c34de89ea3c08b1… (all of the seat's roots in one cut). By AI agents, Wed Nov 11 2026. No macro, syntax, notation, axiom, sorry.
-/
import Derived.Test.Qxb6618618aChecked
import GoSem.Claim
import GoSem.ClaimJoined
import GoSem.ClaimMapViews
import Derived.JoinedTies
import Derived.KernelRfl
namespace Go.Proofs.Qxb6618618a
/- THE CELL 'sum', in the pinned program and in every row, IS THE sha256 OF THE DUMP (.gsa) THAT Qxb6618618aProg.lean LOADS. Nothing in Lean hashes anything: it is a label: what it is worth is what the hold of that sum in a sandbox is worth. -/
noncomputable def Try.pinned : Pinned := { name := "qxb6618618a", sum := "3c34de89ea3c08b1e08390c0315c60731ec7b0c6347762921d7f6415a89df9c9", checked := Try.checked }
namespace Rows
def none {H : Type} : Left H := { results := [], args := [] }

/-- 'zzlaws_metrics_b1.FnRegisterHoldsExactlyTheNames': WHATEVER THE INPUT: true; the input reads as it did. -/
def fnRegisterHoldsExactlyTheNamesSpec : ChangeSpec := { name := "fnRegisterHoldsExactlyTheNames", fn := fun _ => fun
  | [d1, d2] => { results := [.lit (.bool true)], args := [d1, d2] }
  | _ => none }
def fnRegisterHoldsExactlyTheNamesRow : OpenClaim := { program := "qxb6618618a", sum := "3c34de89ea3c08b1e08390c0315c60731ec7b0c6347762921d7f6415a89df9c9", func := "example.com/grantline/grantline/zzlaws_metrics_b1.FnRegisterHoldsExactlyTheNames", spec := "fnRegisterHoldsExactlyTheNames", inPlace := ["(*internal/sync.Mutex).Lock", "internal/race.Disable", "sync/atomic.CompareAndSwapInt32", "internal/race.Enable", "internal/race.Acquire", "(*internal/sync.Mutex).lockSlow", "internal/sync.runtime_canSpin", "internal/sync.runtime_doSpin", "internal/sync.throw", "internal/sync.runtime_nanotime", "internal/sync.runtime_SemacquireMutex", "sync/atomic.AddInt32", "(*internal/sync.Mutex).Unlock", "internal/race.ReleaseMerge", "(*internal/sync.Mutex).unlockSlow", "internal/sync.fatal", "internal/sync.runtime_Semrelease"], apart := false }
def FnRegisterHoldsExactlyTheNamesSaid : Prop := fnRegisterHoldsExactlyTheNamesRow.holds Try.pinned (OpenSpec.ofChange fnRegisterHoldsExactlyTheNamesSpec)

/-- ITS FALSE NEIGHBOUR: 'it returns false'. Refute it at one input. -/
def fnRegisterHoldsExactlyTheNamesWrong : ChangeSpec := { name := "fnRegisterHoldsExactlyTheNames", fn := fun _ => fun
  | [d1, d2] => { results := [.lit (.bool false)], args := [d1, d2] }
  | _ => none }
def FnRegisterHoldsExactlyTheNamesWrongFalsely : Prop := fnRegisterHoldsExactlyTheNamesRow.holds Try.pinned (OpenSpec.ofChange fnRegisterHoldsExactlyTheNamesWrong)

/-- 'zzlaws_metrics_b1.FnRegisterAroundBuildInfoAtAnyCut': WHATEVER THE INPUT: true; the input reads as it did. -/
def fnRegisterAroundBuildInfoAtAnyCutSpec : ChangeSpec := { name := "fnRegisterAroundBuildInfoAtAnyCut", fn := fun _ => fun
  | [d1, d2, d3, d4] => { results := [.lit (.bool true)], args := [d1, d2, d3, d4] }
  | _ => none }
def fnRegisterAroundBuildInfoAtAnyCutRow : OpenClaim := { program := "qxb6618618a", sum := "3c34de89ea3c08b1e08390c0315c60731ec7b0c6347762921d7f6415a89df9c9", func := "example.com/grantline/grantline/zzlaws_metrics_b1.FnRegisterAroundBuildInfoAtAnyCut", spec := "fnRegisterAroundBuildInfoAtAnyCut", inPlace := ["(*internal/sync.Mutex).Lock", "internal/race.Disable", "sync/atomic.CompareAndSwapInt32", "internal/race.Enable", "internal/race.Acquire", "(*internal/sync.Mutex).lockSlow", "internal/sync.runtime_canSpin", "internal/sync.runtime_doSpin", "internal/sync.throw", "internal/sync.runtime_nanotime", "internal/sync.runtime_SemacquireMutex", "sync/atomic.AddInt32", "(*internal/sync.Mutex).Unlock", "internal/race.ReleaseMerge", "(*internal/sync.Mutex).unlockSlow", "internal/sync.fatal", "internal/sync.runtime_Semrelease"], unfollowed := true, recurses := true, apart := false }
def FnRegisterAroundBuildInfoAtAnyCutSaid : Prop := fnRegisterAroundBuildInfoAtAnyCutRow.holds Try.pinned (OpenSpec.ofChange fnRegisterAroundBuildInfoAtAnyCutSpec)

/-- ITS FALSE NEIGHBOUR: 'it returns false'. Refute it at one input. -/
def fnRegisterAroundBuildInfoAtAnyCutWrong : ChangeSpec := { name := "fnRegisterAroundBuildInfoAtAnyCut", fn := fun _ => fun
  | [d1, d2, d3, d4] => { results := [.lit (.bool false)], args := [d1, d2, d3, d4] }
  | _ => none }
def FnRegisterAroundBuildInfoAtAnyCutWrongFalsely : Prop := fnRegisterAroundBuildInfoAtAnyCutRow.holds Try.pinned (OpenSpec.ofChange fnRegisterAroundBuildInfoAtAnyCutWrong)

end Rows
end Go.Proofs.Qxb6618618a
