/-
  NARROWER THAN 'FOR EVERY INPUT', by the rows' own cells (each row's printed sentence says how): LawS0553AOpen: ifaces, laid · LawS0553AClosed: ifaces, laid.
  DERIVED. THE GIVEN ROWS OF THIS SEAT. 2 by the template 'for every input the law returns true; each argument reads behind the call as it read before'; 0 by the template 'total and deterministic' (their statements: YbulkkkuDoorTotals.lean).
  GIVEN WITH THE SEED: the statements are not yours to turn. If you find one false, say at which input.
  Laid BY PROGRAM, IN A SANDBOX (cutbox-rows.mjs): the forced cells as the released guide's own fill.sh prints them over the translation caad2564b50c267b… (all of the seat's roots in one cut). By AI agents, Wed Nov 11 2026. No macro, syntax, notation, axiom, sorry.
-/
import Derived.Test.YbulkkkuDoorChecked
import GoSem.Claim
import GoSem.ClaimJoined
import GoSem.ClaimMapViews
import Derived.JoinedTies
import Derived.KernelRfl
namespace Go.Proofs.YbulkkkuDoor
/- THE CELL 'sum', in the pinned program and in every row, IS THE sha256 OF THE DUMP (.gsa) THAT YbulkkkuDoorProg.lean LOADS. Nothing in Lean hashes anything: it is a label: what it is worth is what the hold of that sum in a sandbox is worth. -/
noncomputable def Ybad.pinned : Pinned := { name := "ybulkkkudoor", sum := "caad2564b50c267be792d3863f0eaed117797cf3efb6145a74eb2675d343f674", checked := Ybad.checked }
namespace Rows
def none {H : Type} : Left H := { results := [], args := [] }

/- WHAT THE LISTED PACKAGE-LEVEL VARIABLES READ AS WHEN THE CALL BEGINS. Each datum BY PROGRAM (the guide's laid-datum.mjs) off the statement by which the dump's own 'gosem.cut.vars' lays the variable. In a bare row this is a premise. The card (YbulkkkuDoorCards.lean) ties it to the program's text. -/
def laid_example_com_orgward_orgward_store_ErrClosed {H : Type} : DataW H := .iface "*errors.errorString" (.ptr (.agg [.lit (.string [115, 116, 111, 114, 101, 58, 32, 99, 108, 111, 115, 101, 100])]))

/-- 'store.LawS0553AOpen': WHATEVER THE INPUT: true; the input reads as it did. -/
def lawS0553AOpenSpec : ChangeSpec := { name := "lawS0553AOpen", vars := ["example.com/orgward/orgward/store.ErrClosed"], fn := fun _ => fun
  | [d, g1] => { results := [.lit (.bool true)], args := [d], vars := [g1] }
  | _ => none }
def lawS0553AOpenRow : OpenClaim := { program := "ybulkkkudoor", sum := "caad2564b50c267be792d3863f0eaed117797cf3efb6145a74eb2675d343f674", func := "example.com/orgward/orgward/store.LawS0553AOpen", spec := "lawS0553AOpen", inPlace := ["(*sync.RWMutex).TryLock", "internal/race.Read", "internal/race.Disable", "(*internal/sync.Mutex).TryLock", "internal/race.Enable", "sync/atomic.CompareAndSwapInt32", "internal/race.Acquire", "(*internal/sync.Mutex).Unlock", "internal/race.ReleaseMerge", "sync/atomic.AddInt32", "(*internal/sync.Mutex).unlockSlow", "internal/sync.fatal", "internal/sync.runtime_Semrelease", "(*sync.RWMutex).Unlock", "internal/race.Release", "sync.fatal", "sync.runtime_Semrelease", "(*sync.RWMutex).RLock", "sync.runtime_SemacquireRWMutexR", "(*sync.RWMutex).RUnlock", "(*sync.RWMutex).rUnlockSlow"], unfollowed := true, recurses := true, named := ["example.com/orgward/orgward/store.ErrClosed"], ifaces := true, plainKeys := false, apart := false, laid := [("example.com/orgward/orgward/store.ErrClosed", laid_example_com_orgward_orgward_store_ErrClosed)] }
def LawS0553AOpenSaid : Prop := lawS0553AOpenRow.holds Ybad.pinned (OpenSpec.ofChange lawS0553AOpenSpec)

/-- ITS FALSE NEIGHBOUR: 'it returns false'. Refute it at one input. -/
def lawS0553AOpenWrong : ChangeSpec := { name := "lawS0553AOpen", vars := ["example.com/orgward/orgward/store.ErrClosed"], fn := fun _ => fun
  | [d, g1] => { results := [.lit (.bool false)], args := [d], vars := [g1] }
  | _ => none }
def LawS0553AOpenWrongFalsely : Prop := lawS0553AOpenRow.holds Ybad.pinned (OpenSpec.ofChange lawS0553AOpenWrong)

/-- 'store.LawS0553AClosed': WHATEVER THE INPUT: true; the input reads as it did. -/
def lawS0553AClosedSpec : ChangeSpec := { name := "lawS0553AClosed", vars := ["example.com/orgward/orgward/store.ErrClosed"], fn := fun _ => fun
  | [d, g1] => { results := [.lit (.bool true)], args := [d], vars := [g1] }
  | _ => none }
def lawS0553AClosedRow : OpenClaim := { program := "ybulkkkudoor", sum := "caad2564b50c267be792d3863f0eaed117797cf3efb6145a74eb2675d343f674", func := "example.com/orgward/orgward/store.LawS0553AClosed", spec := "lawS0553AClosed", inPlace := ["(*sync.RWMutex).RLock", "internal/race.Read", "internal/race.Disable", "sync/atomic.AddInt32", "sync.runtime_SemacquireRWMutexR", "internal/race.Enable", "internal/race.Acquire", "(*sync.RWMutex).RUnlock", "internal/race.ReleaseMerge", "(*sync.RWMutex).rUnlockSlow", "sync.fatal", "sync.runtime_Semrelease", "(*sync.RWMutex).TryLock", "(*internal/sync.Mutex).TryLock", "sync/atomic.CompareAndSwapInt32", "(*internal/sync.Mutex).Unlock", "(*internal/sync.Mutex).unlockSlow", "internal/sync.fatal", "internal/sync.runtime_Semrelease", "(*sync.RWMutex).Unlock", "internal/race.Release"], unfollowed := true, recurses := true, named := ["example.com/orgward/orgward/store.ErrClosed"], ifaces := true, plainKeys := false, apart := false, laid := [("example.com/orgward/orgward/store.ErrClosed", laid_example_com_orgward_orgward_store_ErrClosed)] }
def LawS0553AClosedSaid : Prop := lawS0553AClosedRow.holds Ybad.pinned (OpenSpec.ofChange lawS0553AClosedSpec)

/-- ITS FALSE NEIGHBOUR: 'it returns false'. Refute it at one input. -/
def lawS0553AClosedWrong : ChangeSpec := { name := "lawS0553AClosed", vars := ["example.com/orgward/orgward/store.ErrClosed"], fn := fun _ => fun
  | [d, g1] => { results := [.lit (.bool false)], args := [d], vars := [g1] }
  | _ => none }
def LawS0553AClosedWrongFalsely : Prop := lawS0553AClosedRow.holds Ybad.pinned (OpenSpec.ofChange lawS0553AClosedWrong)

end Rows
end Go.Proofs.YbulkkkuDoor
