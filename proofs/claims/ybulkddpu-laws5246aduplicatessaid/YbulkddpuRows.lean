/-
  No cell of these rows narrows 'for every input' (looked for: loops, veiled, ifaces, maps, wideKeys, modest, calm, conditions, laid).
  DERIVED. THE GIVEN ROWS OF THIS SEAT. 2 by the template 'for every input the law returns true; each argument reads behind the call as it read before'; 0 by the template 'total and deterministic' (their statements: YbulkddpuTotals.lean).
  GIVEN WITH THE SEED: the statements are not yours to turn. If you find one false, say at which input.
  Laid BY PROGRAM, IN A SANDBOX (cutbox-rows.mjs): the forced cells as the released guide's own fill.sh prints them over the translation 209e96019f661acc… (all of the seat's roots in one cut). By AI agents, Wed Nov 11 2026. No macro, syntax, notation, axiom, sorry.
-/
import Derived.Test.YbulkddpuChecked
import GoSem.Claim
import GoSem.ClaimJoined
import GoSem.ClaimMapViews
import Derived.JoinedTies
import Derived.KernelRfl
namespace Go.Proofs.Ybulkddpu
/- THE CELL 'sum', in the pinned program and in every row, IS THE sha256 OF THE DUMP (.gsa) THAT YbulkddpuProg.lean LOADS. Nothing in Lean hashes anything: it is a label: what it is worth is what the hold of that sum in a sandbox is worth. -/
noncomputable def Yba.pinned : Pinned := { name := "ybulkddpu", sum := "209e96019f661acc74514597822ca099433e6a3a2735cd97b8c3ac7d081de3eb", checked := Yba.checked }
namespace Rows
def none {H : Type} : Left H := { results := [], args := [] }

/-- 'store.LawS5246AExact': WHATEVER THE INPUT: true; the input reads as it did. -/
def lawS5246AExactSpec : ChangeSpec := { name := "lawS5246AExact", fn := fun _ => fun
  | [d] => { results := [.lit (.bool true)], args := [d] }
  | _ => none }
def lawS5246AExactRow : OpenClaim := { program := "ybulkddpu", sum := "209e96019f661acc74514597822ca099433e6a3a2735cd97b8c3ac7d081de3eb", func := "example.com/hexring/hexring/store.LawS5246AExact", spec := "lawS5246AExact", plainKeys := false, apart := false }
def LawS5246AExactSaid : Prop := lawS5246AExactRow.holds Yba.pinned (OpenSpec.ofChange lawS5246AExactSpec)

/-- ITS FALSE NEIGHBOUR: 'it returns false'. Refute it at one input. -/
def lawS5246AExactWrong : ChangeSpec := { name := "lawS5246AExact", fn := fun _ => fun
  | [d] => { results := [.lit (.bool false)], args := [d] }
  | _ => none }
def LawS5246AExactWrongFalsely : Prop := lawS5246AExactRow.holds Yba.pinned (OpenSpec.ofChange lawS5246AExactWrong)

/-- 'store.LawS5246ADuplicates': WHATEVER THE INPUT: true; the input reads as it did. -/
def lawS5246ADuplicatesSpec : ChangeSpec := { name := "lawS5246ADuplicates", fn := fun _ => fun
  | [d1, d2] => { results := [.lit (.bool true)], args := [d1, d2] }
  | _ => none }
def lawS5246ADuplicatesRow : OpenClaim := { program := "ybulkddpu", sum := "209e96019f661acc74514597822ca099433e6a3a2735cd97b8c3ac7d081de3eb", func := "example.com/hexring/hexring/store.LawS5246ADuplicates", spec := "lawS5246ADuplicates", plainKeys := false, apart := false }
def LawS5246ADuplicatesSaid : Prop := lawS5246ADuplicatesRow.holds Yba.pinned (OpenSpec.ofChange lawS5246ADuplicatesSpec)

/-- ITS FALSE NEIGHBOUR: 'it returns false'. Refute it at one input. -/
def lawS5246ADuplicatesWrong : ChangeSpec := { name := "lawS5246ADuplicates", fn := fun _ => fun
  | [d1, d2] => { results := [.lit (.bool false)], args := [d1, d2] }
  | _ => none }
def LawS5246ADuplicatesWrongFalsely : Prop := lawS5246ADuplicatesRow.holds Yba.pinned (OpenSpec.ofChange lawS5246ADuplicatesWrong)

end Rows
end Go.Proofs.Ybulkddpu
