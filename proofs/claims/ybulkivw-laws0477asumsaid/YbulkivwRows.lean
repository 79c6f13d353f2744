/-
  No cell of these rows narrows 'for every input' (looked for: loops, veiled, ifaces, maps, wideKeys, modest, calm, conditions, laid).
  DERIVED. THE GIVEN ROWS OF THIS SEAT. 3 by the template 'for every input the law returns true; each argument reads behind the call as it read before'; 0 by the template 'total and deterministic' (their statements: YbulkivwTotals.lean).
  GIVEN WITH THE SEED: the statements are not yours to turn. If you find one false, say at which input.
  Laid BY PROGRAM, IN A SANDBOX (cutbox-rows.mjs): the forced cells as the released guide's own fill.sh prints them over the translation 298db68e319919d3… (all of the seat's roots in one cut). By AI agents, Wed Nov 11 2026. No macro, syntax, notation, axiom, sorry.
-/
import Derived.Test.YbulkivwChecked
import GoSem.Claim
import GoSem.ClaimJoined
import GoSem.ClaimMapViews
import Derived.JoinedTies
import Derived.KernelRfl
namespace Go.Proofs.Ybulkivw
/- THE CELL 'sum', in the pinned program and in every row, IS THE sha256 OF THE DUMP (.gsa) THAT YbulkivwProg.lean LOADS. Nothing in Lean hashes anything: it is a label: what it is worth is what the hold of that sum in a sandbox is worth. -/
noncomputable def Yba.pinned : Pinned := { name := "ybulkivw", sum := "298db68e319919d3971986e2df9f2b0a6a047aebe98ede3feabb64e36818f190", checked := Yba.checked }
namespace Rows
def none {H : Type} : Left H := { results := [], args := [] }

/-- 'wire.LawS0477ASum': WHATEVER THE INPUT: true; the input reads as it did. -/
def lawS0477ASumSpec : ChangeSpec := { name := "lawS0477ASum", fn := fun _ => fun
  | [d] => { results := [.lit (.bool true)], args := [d] }
  | _ => none }
def lawS0477ASumRow : OpenClaim := { program := "ybulkivw", sum := "298db68e319919d3971986e2df9f2b0a6a047aebe98ede3feabb64e36818f190", func := "example.com/onceward/onceward/wire.LawS0477ASum", spec := "lawS0477ASum", inPlace := ["(*internal/sync.Mutex).Lock", "internal/race.Disable", "sync/atomic.CompareAndSwapInt32", "internal/race.Enable", "internal/race.Acquire", "(*internal/sync.Mutex).lockSlow", "internal/sync.runtime_canSpin", "internal/sync.runtime_doSpin", "internal/sync.throw", "internal/sync.runtime_nanotime", "internal/sync.runtime_SemacquireMutex", "sync/atomic.AddInt32", "(*internal/sync.Mutex).Unlock", "internal/race.ReleaseMerge", "(*internal/sync.Mutex).unlockSlow", "internal/sync.fatal", "internal/sync.runtime_Semrelease"], plainKeys := false, apart := false }
def LawS0477ASumSaid : Prop := lawS0477ASumRow.holds Yba.pinned (OpenSpec.ofChange lawS0477ASumSpec)

/-- ITS FALSE NEIGHBOUR: 'it returns false'. Refute it at one input. -/
def lawS0477ASumWrong : ChangeSpec := { name := "lawS0477ASum", fn := fun _ => fun
  | [d] => { results := [.lit (.bool false)], args := [d] }
  | _ => none }
def LawS0477ASumWrongFalsely : Prop := lawS0477ASumRow.holds Yba.pinned (OpenSpec.ofChange lawS0477ASumWrong)

/-- 'wire.LawS0477AKeeps': WHATEVER THE INPUT: true; the input reads as it did. -/
def lawS0477AKeepsSpec : ChangeSpec := { name := "lawS0477AKeeps", fn := fun _ => fun
  | [d1, d2] => { results := [.lit (.bool true)], args := [d1, d2] }
  | _ => none }
def lawS0477AKeepsRow : OpenClaim := { program := "ybulkivw", sum := "298db68e319919d3971986e2df9f2b0a6a047aebe98ede3feabb64e36818f190", func := "example.com/onceward/onceward/wire.LawS0477AKeeps", spec := "lawS0477AKeeps", inPlace := ["(*internal/sync.Mutex).Lock", "internal/race.Disable", "sync/atomic.CompareAndSwapInt32", "internal/race.Enable", "internal/race.Acquire", "(*internal/sync.Mutex).lockSlow", "internal/sync.runtime_canSpin", "internal/sync.runtime_doSpin", "internal/sync.throw", "internal/sync.runtime_nanotime", "internal/sync.runtime_SemacquireMutex", "sync/atomic.AddInt32", "(*internal/sync.Mutex).Unlock", "internal/race.ReleaseMerge", "(*internal/sync.Mutex).unlockSlow", "internal/sync.fatal", "internal/sync.runtime_Semrelease", "(*internal/sync.Mutex).TryLock"], plainKeys := false, apart := false }
def LawS0477AKeepsSaid : Prop := lawS0477AKeepsRow.holds Yba.pinned (OpenSpec.ofChange lawS0477AKeepsSpec)

/-- ITS FALSE NEIGHBOUR: 'it returns false'. Refute it at one input. -/
def lawS0477AKeepsWrong : ChangeSpec := { name := "lawS0477AKeeps", fn := fun _ => fun
  | [d1, d2] => { results := [.lit (.bool false)], args := [d1, d2] }
  | _ => none }
def LawS0477AKeepsWrongFalsely : Prop := lawS0477AKeepsRow.holds Yba.pinned (OpenSpec.ofChange lawS0477AKeepsWrong)

/-- 'store.LawS0477BGives': WHATEVER THE INPUT: true; the input reads as it did. -/
def lawS0477BGivesSpec : ChangeSpec := { name := "lawS0477BGives", fn := fun _ => fun
  | [d1, d2] => { results := [.lit (.bool true)], args := [d1, d2] }
  | _ => none }
def lawS0477BGivesRow : OpenClaim := { program := "ybulkivw", sum := "298db68e319919d3971986e2df9f2b0a6a047aebe98ede3feabb64e36818f190", func := "example.com/onceward/onceward/store.LawS0477BGives", spec := "lawS0477BGives", inPlace := ["(*internal/sync.Mutex).Lock", "internal/race.Disable", "sync/atomic.CompareAndSwapInt32", "internal/race.Enable", "internal/race.Acquire", "(*internal/sync.Mutex).lockSlow", "internal/sync.runtime_canSpin", "internal/sync.runtime_doSpin", "internal/sync.throw", "internal/sync.runtime_nanotime", "internal/sync.runtime_SemacquireMutex", "sync/atomic.AddInt32", "(*internal/sync.Mutex).Unlock", "internal/race.ReleaseMerge", "(*internal/sync.Mutex).unlockSlow", "internal/sync.fatal", "internal/sync.runtime_Semrelease", "(*internal/sync.Mutex).TryLock"], plainKeys := false, apart := false }
def LawS0477BGivesSaid : Prop := lawS0477BGivesRow.holds Yba.pinned (OpenSpec.ofChange lawS0477BGivesSpec)

/-- ITS FALSE NEIGHBOUR: 'it returns false'. Refute it at one input. -/
def lawS0477BGivesWrong : ChangeSpec := { name := "lawS0477BGives", fn := fun _ => fun
  | [d1, d2] => { results := [.lit (.bool false)], args := [d1, d2] }
  | _ => none }
def LawS0477BGivesWrongFalsely : Prop := lawS0477BGivesRow.holds Yba.pinned (OpenSpec.ofChange lawS0477BGivesWrong)

end Rows
end Go.Proofs.Ybulkivw
