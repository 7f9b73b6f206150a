/-
  No cell of these rows narrows 'for every input' (looked for: loops, veiled, ifaces, maps, wideKeys, modest, calm, conditions, laid).
  DERIVED. THE GIVEN ROWS OF THIS SEAT. 2 by the template 'for every input the law returns true; each argument reads behind the call as it read before'; 0 by the template 'total and deterministic' (their statements: YbulkddnqTotals.lean).
  GIVEN WITH THE SEED: the statements are not yours to turn. If you find one false, say at which input.
  Laid BY PROGRAM, IN A SANDBOX (cutbox-rows.mjs): the forced cells as the released guide's own fill.sh prints them over the translation 001d2d027a3b4bcd… (all of the seat's roots in one cut). By AI agents, Wed Nov 11 2026. No macro, syntax, notation, axiom, sorry.
-/
import Derived.Test.YbulkddnqChecked
import GoSem.Claim
import GoSem.ClaimJoined
import GoSem.ClaimMapViews
import Derived.JoinedTies
import Derived.KernelRfl
namespace Go.Proofs.Ybulkddnq
/- THE CELL 'sum', in the pinned program and in every row, IS THE sha256 OF THE DUMP (.gsa) THAT YbulkddnqProg.lean LOADS. Nothing in Lean hashes anything: it is a label: what it is worth is what the hold of that sum in a sandbox is worth. -/
noncomputable def Yba.pinned : Pinned := { name := "ybulkddnq", sum := "001d2d027a3b4bcdf4d0d859fddae8d916062f3c31201e6c393dcf962aa847d5", checked := Yba.checked }
namespace Rows
def none {H : Type} : Left H := { results := [], args := [] }

/-- 'server.LawS5242AFields': WHATEVER THE INPUT: true; the input reads as it did. -/
def lawS5242AFieldsSpec : ChangeSpec := { name := "lawS5242AFields", fn := fun _ => fun
  | [d1, d2, d3] => { results := [.lit (.bool true)], args := [d1, d2, d3] }
  | _ => none }
def lawS5242AFieldsRow : OpenClaim := { program := "ybulkddnq", sum := "001d2d027a3b4bcdf4d0d859fddae8d916062f3c31201e6c393dcf962aa847d5", func := "example.com/seqflow/seqflow/internal/server.LawS5242AFields", spec := "lawS5242AFields", apart := false }
def LawS5242AFieldsSaid : Prop := lawS5242AFieldsRow.holds Yba.pinned (OpenSpec.ofChange lawS5242AFieldsSpec)

/-- ITS FALSE NEIGHBOUR: 'it returns false'. Refute it at one input. -/
def lawS5242AFieldsWrong : ChangeSpec := { name := "lawS5242AFields", fn := fun _ => fun
  | [d1, d2, d3] => { results := [.lit (.bool false)], args := [d1, d2, d3] }
  | _ => none }
def LawS5242AFieldsWrongFalsely : Prop := lawS5242AFieldsRow.holds Yba.pinned (OpenSpec.ofChange lawS5242AFieldsWrong)

/-- 'store.LawS5242CWritable': WHATEVER THE INPUT: true; the input reads as it did. -/
def lawS5242CWritableSpec : ChangeSpec := { name := "lawS5242CWritable", fn := fun _ => fun
  | [d1, d2, d3, d4] => { results := [.lit (.bool true)], args := [d1, d2, d3, d4] }
  | _ => none }
def lawS5242CWritableRow : OpenClaim := { program := "ybulkddnq", sum := "001d2d027a3b4bcdf4d0d859fddae8d916062f3c31201e6c393dcf962aa847d5", func := "example.com/seqflow/seqflow/internal/store.LawS5242CWritable", spec := "lawS5242CWritable", inPlace := ["(*internal/sync.Mutex).Lock", "internal/race.Disable", "sync/atomic.CompareAndSwapInt32", "internal/race.Enable", "internal/race.Acquire", "(*internal/sync.Mutex).lockSlow", "internal/sync.runtime_canSpin", "internal/sync.runtime_doSpin", "internal/sync.throw", "internal/sync.runtime_nanotime", "internal/sync.runtime_SemacquireMutex", "sync/atomic.AddInt32", "(*internal/sync.Mutex).Unlock", "internal/race.ReleaseMerge", "(*internal/sync.Mutex).unlockSlow", "internal/sync.fatal", "internal/sync.runtime_Semrelease", "(*internal/sync.Mutex).TryLock"], apart := false }
def LawS5242CWritableSaid : Prop := lawS5242CWritableRow.holds Yba.pinned (OpenSpec.ofChange lawS5242CWritableSpec)

/-- ITS FALSE NEIGHBOUR: 'it returns false'. Refute it at one input. -/
def lawS5242CWritableWrong : ChangeSpec := { name := "lawS5242CWritable", fn := fun _ => fun
  | [d1, d2, d3, d4] => { results := [.lit (.bool false)], args := [d1, d2, d3, d4] }
  | _ => none }
def LawS5242CWritableWrongFalsely : Prop := lawS5242CWritableRow.holds Yba.pinned (OpenSpec.ofChange lawS5242CWritableWrong)

end Rows
end Go.Proofs.Ybulkddnq
