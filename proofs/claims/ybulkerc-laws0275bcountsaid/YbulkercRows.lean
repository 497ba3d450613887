/-
  No cell of these rows narrows 'for every input' (looked for: loops, veiled, ifaces, maps, wideKeys, modest, calm, conditions, laid).
  DERIVED. THE GIVEN ROWS OF THIS SEAT. 2 by the template 'for every input the law returns true; each argument reads behind the call as it read before'; 0 by the template 'total and deterministic' (their statements: YbulkercTotals.lean).
  GIVEN WITH THE SEED: the statements are not yours to turn. If you find one false, say at which input.
  Laid BY PROGRAM, IN A SANDBOX (cutbox-rows.mjs): the forced cells as the released guide's own fill.sh prints them over the translation 810a710095d41c99… (all of the seat's roots in one cut). By AI agents, Wed Nov 11 2026. No macro, syntax, notation, axiom, sorry.
-/
import Derived.Test.YbulkercChecked
import GoSem.Claim
import GoSem.ClaimJoined
import GoSem.ClaimMapViews
import Derived.JoinedTies
import Derived.KernelRfl
namespace Go.Proofs.Ybulkerc
/- THE CELL 'sum', in the pinned program and in every row, IS THE sha256 OF THE DUMP (.gsa) THAT YbulkercProg.lean LOADS. Nothing in Lean hashes anything: it is a label: what it is worth is what the hold of that sum in a sandbox is worth. -/
noncomputable def Yba.pinned : Pinned := { name := "ybulkerc", sum := "810a710095d41c99a6c36c184851e2121817d1b9fd052ec6853a7023d3a75a62", checked := Yba.checked }
namespace Rows
def none {H : Type} : Left H := { results := [], args := [] }

/-- 'tidewire.LawS0275BCount': WHATEVER THE INPUT: true; the input reads as it did. -/
def lawS0275BCountSpec : ChangeSpec := { name := "lawS0275BCount", fn := fun _ => fun
  | [d1, d2, d3] => { results := [.lit (.bool true)], args := [d1, d2, d3] }
  | _ => none }
def lawS0275BCountRow : OpenClaim := { program := "ybulkerc", sum := "810a710095d41c99a6c36c184851e2121817d1b9fd052ec6853a7023d3a75a62", func := "example.com/tidewire/tidewire.LawS0275BCount", spec := "lawS0275BCount", inPlace := ["(*internal/sync.Mutex).Lock", "internal/race.Disable", "sync/atomic.CompareAndSwapInt32", "internal/race.Enable", "internal/race.Acquire", "(*internal/sync.Mutex).lockSlow", "internal/sync.runtime_canSpin", "internal/sync.runtime_doSpin", "internal/sync.throw", "internal/sync.runtime_nanotime", "internal/sync.runtime_SemacquireMutex", "sync/atomic.AddInt32", "(*internal/sync.Mutex).Unlock", "internal/race.ReleaseMerge", "(*internal/sync.Mutex).unlockSlow", "internal/sync.fatal", "internal/sync.runtime_Semrelease", "(*internal/sync.Mutex).TryLock"], plainKeys := false, apart := false }
def LawS0275BCountSaid : Prop := lawS0275BCountRow.holds Yba.pinned (OpenSpec.ofChange lawS0275BCountSpec)

/-- ITS FALSE NEIGHBOUR: 'it returns false'. Refute it at one input. -/
def lawS0275BCountWrong : ChangeSpec := { name := "lawS0275BCount", fn := fun _ => fun
  | [d1, d2, d3] => { results := [.lit (.bool false)], args := [d1, d2, d3] }
  | _ => none }
def LawS0275BCountWrongFalsely : Prop := lawS0275BCountRow.holds Yba.pinned (OpenSpec.ofChange lawS0275BCountWrong)

/-- 'tidewire.LawS0275BZero': WHATEVER THE INPUT: true; the input reads as it did. -/
def lawS0275BZeroSpec : ChangeSpec := { name := "lawS0275BZero", fn := fun _ => fun
  | [d] => { results := [.lit (.bool true)], args := [d] }
  | _ => none }
def lawS0275BZeroRow : OpenClaim := { program := "ybulkerc", sum := "810a710095d41c99a6c36c184851e2121817d1b9fd052ec6853a7023d3a75a62", func := "example.com/tidewire/tidewire.LawS0275BZero", spec := "lawS0275BZero", inPlace := ["(*internal/sync.Mutex).Lock", "internal/race.Disable", "sync/atomic.CompareAndSwapInt32", "internal/race.Enable", "internal/race.Acquire", "(*internal/sync.Mutex).lockSlow", "internal/sync.runtime_canSpin", "internal/sync.runtime_doSpin", "internal/sync.throw", "internal/sync.runtime_nanotime", "internal/sync.runtime_SemacquireMutex", "sync/atomic.AddInt32", "(*internal/sync.Mutex).Unlock", "internal/race.ReleaseMerge", "(*internal/sync.Mutex).unlockSlow", "internal/sync.fatal", "internal/sync.runtime_Semrelease", "(*internal/sync.Mutex).TryLock"], plainKeys := false, apart := false }
def LawS0275BZeroSaid : Prop := lawS0275BZeroRow.holds Yba.pinned (OpenSpec.ofChange lawS0275BZeroSpec)

/-- ITS FALSE NEIGHBOUR: 'it returns false'. Refute it at one input. -/
def lawS0275BZeroWrong : ChangeSpec := { name := "lawS0275BZero", fn := fun _ => fun
  | [d] => { results := [.lit (.bool false)], args := [d] }
  | _ => none }
def LawS0275BZeroWrongFalsely : Prop := lawS0275BZeroRow.holds Yba.pinned (OpenSpec.ofChange lawS0275BZeroWrong)

end Rows
end Go.Proofs.Ybulkerc
