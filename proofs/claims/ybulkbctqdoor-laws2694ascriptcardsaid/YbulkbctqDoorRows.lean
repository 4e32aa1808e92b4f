/-
  NARROWER THAN 'FOR EVERY INPUT', by the rows' own cells (each row's printed sentence says how): LawS2694AScript: laid · LawS2694ARestore: laid.
  DERIVED. THE GIVEN ROWS OF THIS SEAT. 2 by the template 'for every input the law returns true; each argument reads behind the call as it read before'; 0 by the template 'total and deterministic' (their statements: YbulkbctqDoorTotals.lean).
  GIVEN WITH THE SEED: the statements are not yours to turn. If you find one false, say at which input.
  Laid BY PROGRAM, IN A SANDBOX (cutbox-rows.mjs): the forced cells as the released guide's own fill.sh prints them over the translation b2c8669783582095… (all of the seat's roots in one cut). By AI agents, Wed Nov 11 2026. No macro, syntax, notation, axiom, sorry.
-/
import Derived.Test.YbulkbctqDoorChecked
import GoSem.Claim
import GoSem.ClaimJoined
import GoSem.ClaimMapViews
import Derived.JoinedTies
import Derived.KernelRfl
namespace Go.Proofs.YbulkbctqDoor
/- THE CELL 'sum', in the pinned program and in every row, IS THE sha256 OF THE DUMP (.gsa) THAT YbulkbctqDoorProg.lean LOADS. Nothing in Lean hashes anything: it is a label: what it is worth is what the hold of that sum in a sandbox is worth. -/
noncomputable def Ybad.pinned : Pinned := { name := "ybulkbctqdoor", sum := "b2c8669783582095c390a6b6de534c07eab56f968f8c58737321d4cc56ee4e62", checked := Ybad.checked }
namespace Rows
def none {H : Type} : Left H := { results := [], args := [] }

/- WHAT THE LISTED PACKAGE-LEVEL VARIABLES READ AS WHEN THE CALL BEGINS. Each datum BY PROGRAM (the guide's laid-datum.mjs) off the statement by which the dump's own 'gosem.cut.vars' lays the variable. In a bare row this is a premise. The card (YbulkbctqDoorCards.lean) ties it to the program's text. -/
def laid_net_netip_z4 {H : Type} : DataW H := .agg [.ptr (.agg [.lit (.bool false), .lit (.string [])])]
def laid_net_netip_z6noz {H : Type} : DataW H := .agg [.ptr (.agg [.lit (.bool true), .lit (.string [])])]
def laid_net_netip_z0 {H : Type} : DataW H := .agg [.nil]

/-- 'node.LawS2694AScript': WHATEVER THE INPUT: true; the input reads as it did. -/
def lawS2694AScriptSpec : ChangeSpec := { name := "lawS2694AScript", fn := fun _ => fun
  | [d] => { results := [.lit (.bool true)], args := [d] }
  | _ => none }
def lawS2694AScriptRow : OpenClaim := { program := "ybulkbctqdoor", sum := "b2c8669783582095c390a6b6de534c07eab56f968f8c58737321d4cc56ee4e62", func := "example.com/anchorline/anchorline/internal/node.LawS2694AScript", spec := "lawS2694AScript", inPlace := ["(*internal/sync.Mutex).Lock", "internal/race.Disable", "sync/atomic.CompareAndSwapInt32", "internal/race.Enable", "internal/race.Acquire", "(*internal/sync.Mutex).lockSlow", "internal/sync.runtime_canSpin", "internal/sync.runtime_doSpin", "internal/sync.throw", "internal/sync.runtime_nanotime", "internal/sync.runtime_SemacquireMutex", "sync/atomic.AddInt32", "(*internal/sync.Mutex).Unlock", "internal/race.ReleaseMerge", "(*internal/sync.Mutex).unlockSlow", "internal/sync.fatal", "internal/sync.runtime_Semrelease"], unfollowed := true, recurses := true, named := ["net/netip.z4", "net/netip.z0", "net/netip.z6noz"], plainKeys := false, apart := false, laid := [("net/netip.z4", laid_net_netip_z4), ("net/netip.z6noz", laid_net_netip_z6noz), ("net/netip.z0", laid_net_netip_z0)] }
def LawS2694AScriptSaid : Prop := lawS2694AScriptRow.holds Ybad.pinned (OpenSpec.ofChange lawS2694AScriptSpec)

/-- ITS FALSE NEIGHBOUR: 'it returns false'. Refute it at one input. -/
def lawS2694AScriptWrong : ChangeSpec := { name := "lawS2694AScript", fn := fun _ => fun
  | [d] => { results := [.lit (.bool false)], args := [d] }
  | _ => none }
def LawS2694AScriptWrongFalsely : Prop := lawS2694AScriptRow.holds Ybad.pinned (OpenSpec.ofChange lawS2694AScriptWrong)

/-- 'node.LawS2694ARestore': WHATEVER THE INPUT: true; the input reads as it did. -/
def lawS2694ARestoreSpec : ChangeSpec := { name := "lawS2694ARestore", fn := fun _ => fun
  | [d1, d2] => { results := [.lit (.bool true)], args := [d1, d2] }
  | _ => none }
def lawS2694ARestoreRow : OpenClaim := { program := "ybulkbctqdoor", sum := "b2c8669783582095c390a6b6de534c07eab56f968f8c58737321d4cc56ee4e62", func := "example.com/anchorline/anchorline/internal/node.LawS2694ARestore", spec := "lawS2694ARestore", inPlace := ["(*internal/sync.Mutex).Lock", "internal/race.Disable", "sync/atomic.CompareAndSwapInt32", "internal/race.Enable", "internal/race.Acquire", "(*internal/sync.Mutex).lockSlow", "internal/sync.runtime_canSpin", "internal/sync.runtime_doSpin", "internal/sync.throw", "internal/sync.runtime_nanotime", "internal/sync.runtime_SemacquireMutex", "sync/atomic.AddInt32", "(*internal/sync.Mutex).Unlock", "internal/race.ReleaseMerge", "(*internal/sync.Mutex).unlockSlow", "internal/sync.fatal", "internal/sync.runtime_Semrelease"], unfollowed := true, recurses := true, named := ["net/netip.z4", "net/netip.z0", "net/netip.z6noz"], plainKeys := false, apart := false, laid := [("net/netip.z4", laid_net_netip_z4), ("net/netip.z6noz", laid_net_netip_z6noz), ("net/netip.z0", laid_net_netip_z0)] }
def LawS2694ARestoreSaid : Prop := lawS2694ARestoreRow.holds Ybad.pinned (OpenSpec.ofChange lawS2694ARestoreSpec)

/-- ITS FALSE NEIGHBOUR: 'it returns false'. Refute it at one input. -/
def lawS2694ARestoreWrong : ChangeSpec := { name := "lawS2694ARestore", fn := fun _ => fun
  | [d1, d2] => { results := [.lit (.bool false)], args := [d1, d2] }
  | _ => none }
def LawS2694ARestoreWrongFalsely : Prop := lawS2694ARestoreRow.holds Ybad.pinned (OpenSpec.ofChange lawS2694ARestoreWrong)

end Rows
end Go.Proofs.YbulkbctqDoor
