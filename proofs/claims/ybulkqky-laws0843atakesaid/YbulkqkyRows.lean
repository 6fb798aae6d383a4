/-
  No cell of these rows narrows 'for every input' (looked for: loops, veiled, ifaces, maps, wideKeys, modest, calm, conditions, laid).
  DERIVED. THE GIVEN ROWS OF THIS SEAT. 4 by the template 'for every input the law returns true; each argument reads behind the call as it read before'; 0 by the template 'total and deterministic' (their statements: YbulkqkyTotals.lean).
  GIVEN WITH THE SEED: the statements are not yours to turn. If you find one false, say at which input.
  Laid BY PROGRAM, IN A SANDBOX (cutbox-rows.mjs): the forced cells as the released guide's own fill.sh prints them over the translation 8cbe53fab029b12b… (all of the seat's roots in one cut). By AI agents, Wed Nov 11 2026. No macro, syntax, notation, axiom, sorry.
-/
import Derived.Test.YbulkqkyChecked
import GoSem.Claim
import GoSem.ClaimJoined
import GoSem.ClaimMapViews
import Derived.JoinedTies
import Derived.KernelRfl
namespace Go.Proofs.Ybulkqky
/- THE CELL 'sum', in the pinned program and in every row, IS THE sha256 OF THE DUMP (.gsa) THAT YbulkqkyProg.lean LOADS. Nothing in Lean hashes anything: it is a label: what it is worth is what the hold of that sum in a sandbox is worth. -/
noncomputable def Yba.pinned : Pinned := { name := "ybulkqky", sum := "8cbe53fab029b12b337c1e72b6454590db5a4a73097f74095270200b503c8913", checked := Yba.checked }
namespace Rows
def none {H : Type} : Left H := { results := [], args := [] }

/-- 'daemon.LawS0843AOrder': WHATEVER THE INPUT: true; the input reads as it did. -/
def lawS0843AOrderSpec : ChangeSpec := { name := "lawS0843AOrder", fn := fun _ => fun
  | [d1, d2] => { results := [.lit (.bool true)], args := [d1, d2] }
  | _ => none }
def lawS0843AOrderRow : OpenClaim := { program := "ybulkqky", sum := "8cbe53fab029b12b337c1e72b6454590db5a4a73097f74095270200b503c8913", func := "example.com/holdfast/holdfast/pkg/daemon.LawS0843AOrder", spec := "lawS0843AOrder", inPlace := ["(*internal/sync.Mutex).Lock", "internal/race.Disable", "sync/atomic.CompareAndSwapInt32", "internal/race.Enable", "internal/race.Acquire", "(*internal/sync.Mutex).lockSlow", "internal/sync.runtime_canSpin", "internal/sync.runtime_doSpin", "internal/sync.throw", "internal/sync.runtime_nanotime", "internal/sync.runtime_SemacquireMutex", "sync/atomic.AddInt32", "(*internal/sync.Mutex).Unlock", "internal/race.ReleaseMerge", "(*internal/sync.Mutex).unlockSlow", "internal/sync.fatal", "internal/sync.runtime_Semrelease"], apart := false }
def LawS0843AOrderSaid : Prop := lawS0843AOrderRow.holds Yba.pinned (OpenSpec.ofChange lawS0843AOrderSpec)

/-- ITS FALSE NEIGHBOUR: 'it returns false'. Refute it at one input. -/
def lawS0843AOrderWrong : ChangeSpec := { name := "lawS0843AOrder", fn := fun _ => fun
  | [d1, d2] => { results := [.lit (.bool false)], args := [d1, d2] }
  | _ => none }
def LawS0843AOrderWrongFalsely : Prop := lawS0843AOrderRow.holds Yba.pinned (OpenSpec.ofChange lawS0843AOrderWrong)

/-- 'daemon.LawS0843ATake': WHATEVER THE INPUT: true; the input reads as it did. -/
def lawS0843ATakeSpec : ChangeSpec := { name := "lawS0843ATake", fn := fun _ => fun
  | [d1, d2] => { results := [.lit (.bool true)], args := [d1, d2] }
  | _ => none }
def lawS0843ATakeRow : OpenClaim := { program := "ybulkqky", sum := "8cbe53fab029b12b337c1e72b6454590db5a4a73097f74095270200b503c8913", func := "example.com/holdfast/holdfast/pkg/daemon.LawS0843ATake", spec := "lawS0843ATake", inPlace := ["(*internal/sync.Mutex).Lock", "internal/race.Disable", "sync/atomic.CompareAndSwapInt32", "internal/race.Enable", "internal/race.Acquire", "(*internal/sync.Mutex).lockSlow", "internal/sync.runtime_canSpin", "internal/sync.runtime_doSpin", "internal/sync.throw", "internal/sync.runtime_nanotime", "internal/sync.runtime_SemacquireMutex", "sync/atomic.AddInt32", "(*internal/sync.Mutex).Unlock", "internal/race.ReleaseMerge", "(*internal/sync.Mutex).unlockSlow", "internal/sync.fatal", "internal/sync.runtime_Semrelease"], unfollowed := true, recurses := true, apart := false }
def LawS0843ATakeSaid : Prop := lawS0843ATakeRow.holds Yba.pinned (OpenSpec.ofChange lawS0843ATakeSpec)

/-- ITS FALSE NEIGHBOUR: 'it returns false'. Refute it at one input. -/
def lawS0843ATakeWrong : ChangeSpec := { name := "lawS0843ATake", fn := fun _ => fun
  | [d1, d2] => { results := [.lit (.bool false)], args := [d1, d2] }
  | _ => none }
def LawS0843ATakeWrongFalsely : Prop := lawS0843ATakeRow.holds Yba.pinned (OpenSpec.ofChange lawS0843ATakeWrong)

/-- 'cluster.LawS0843CPick': WHATEVER THE INPUT: true; the input reads as it did. -/
def lawS0843CPickSpec : ChangeSpec := { name := "lawS0843CPick", fn := fun _ => fun
  | [d1, d2] => { results := [.lit (.bool true)], args := [d1, d2] }
  | _ => none }
def lawS0843CPickRow : OpenClaim := { program := "ybulkqky", sum := "8cbe53fab029b12b337c1e72b6454590db5a4a73097f74095270200b503c8913", func := "example.com/holdfast/holdfast/pkg/cluster.LawS0843CPick", spec := "lawS0843CPick", apart := false }
def LawS0843CPickSaid : Prop := lawS0843CPickRow.holds Yba.pinned (OpenSpec.ofChange lawS0843CPickSpec)

/-- ITS FALSE NEIGHBOUR: 'it returns false'. Refute it at one input. -/
def lawS0843CPickWrong : ChangeSpec := { name := "lawS0843CPick", fn := fun _ => fun
  | [d1, d2] => { results := [.lit (.bool false)], args := [d1, d2] }
  | _ => none }
def LawS0843CPickWrongFalsely : Prop := lawS0843CPickRow.holds Yba.pinned (OpenSpec.ofChange lawS0843CPickWrong)

/-- 'cluster.LawS0843CNonEmpty': WHATEVER THE INPUT: true; the input reads as it did. -/
def lawS0843CNonEmptySpec : ChangeSpec := { name := "lawS0843CNonEmpty", fn := fun _ => fun
  | [d1, d2] => { results := [.lit (.bool true)], args := [d1, d2] }
  | _ => none }
def lawS0843CNonEmptyRow : OpenClaim := { program := "ybulkqky", sum := "8cbe53fab029b12b337c1e72b6454590db5a4a73097f74095270200b503c8913", func := "example.com/holdfast/holdfast/pkg/cluster.LawS0843CNonEmpty", spec := "lawS0843CNonEmpty", apart := false }
def LawS0843CNonEmptySaid : Prop := lawS0843CNonEmptyRow.holds Yba.pinned (OpenSpec.ofChange lawS0843CNonEmptySpec)

/-- ITS FALSE NEIGHBOUR: 'it returns false'. Refute it at one input. -/
def lawS0843CNonEmptyWrong : ChangeSpec := { name := "lawS0843CNonEmpty", fn := fun _ => fun
  | [d1, d2] => { results := [.lit (.bool false)], args := [d1, d2] }
  | _ => none }
def LawS0843CNonEmptyWrongFalsely : Prop := lawS0843CNonEmptyRow.holds Yba.pinned (OpenSpec.ofChange lawS0843CNonEmptyWrong)

end Rows
end Go.Proofs.Ybulkqky
