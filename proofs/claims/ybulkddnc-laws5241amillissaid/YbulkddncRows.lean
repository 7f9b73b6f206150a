/-
  No cell of these rows narrows 'for every input' (looked for: loops, veiled, ifaces, maps, wideKeys, modest, calm, conditions, laid).
  DERIVED. THE GIVEN ROWS OF THIS SEAT. 2 by the template 'for every input the law returns true; each argument reads behind the call as it read before'; 0 by the template 'total and deterministic' (their statements: YbulkddncTotals.lean).
  GIVEN WITH THE SEED: the statements are not yours to turn. If you find one false, say at which input.
  Laid BY PROGRAM, IN A SANDBOX (cutbox-rows.mjs): the forced cells as the released guide's own fill.sh prints them over the translation fc3eeddb4530310a… (all of the seat's roots in one cut). By AI agents, Wed Nov 11 2026. No macro, syntax, notation, axiom, sorry.
-/
import Derived.Test.YbulkddncChecked
import GoSem.Claim
import GoSem.ClaimJoined
import GoSem.ClaimMapViews
import Derived.JoinedTies
import Derived.KernelRfl
namespace Go.Proofs.Ybulkddnc
/- THE CELL 'sum', in the pinned program and in every row, IS THE sha256 OF THE DUMP (.gsa) THAT YbulkddncProg.lean LOADS. Nothing in Lean hashes anything: it is a label: what it is worth is what the hold of that sum in a sandbox is worth. -/
noncomputable def Yba.pinned : Pinned := { name := "ybulkddnc", sum := "fc3eeddb4530310a354d0e1c56c9e97b1a2eda37bde24f4934900fd1012a962b", checked := Yba.checked }
namespace Rows
def none {H : Type} : Left H := { results := [], args := [] }

/-- 'federation.LawS5241AExact': WHATEVER THE INPUT: true; the input reads as it did. -/
def lawS5241AExactSpec : ChangeSpec := { name := "lawS5241AExact", fn := fun _ => fun
  | [d1, d2] => { results := [.lit (.bool true)], args := [d1, d2] }
  | _ => none }
def lawS5241AExactRow : OpenClaim := { program := "ybulkddnc", sum := "fc3eeddb4530310a354d0e1c56c9e97b1a2eda37bde24f4934900fd1012a962b", func := "example.com/attestra/attestra/internal/federation.LawS5241AExact", spec := "lawS5241AExact", apart := false }
def LawS5241AExactSaid : Prop := lawS5241AExactRow.holds Yba.pinned (OpenSpec.ofChange lawS5241AExactSpec)

/-- ITS FALSE NEIGHBOUR: 'it returns false'. Refute it at one input. -/
def lawS5241AExactWrong : ChangeSpec := { name := "lawS5241AExact", fn := fun _ => fun
  | [d1, d2] => { results := [.lit (.bool false)], args := [d1, d2] }
  | _ => none }
def LawS5241AExactWrongFalsely : Prop := lawS5241AExactRow.holds Yba.pinned (OpenSpec.ofChange lawS5241AExactWrong)

/-- 'federation.LawS5241AMillis': WHATEVER THE INPUT: true; the input reads as it did. -/
def lawS5241AMillisSpec : ChangeSpec := { name := "lawS5241AMillis", fn := fun _ => fun
  | [d1, d2] => { results := [.lit (.bool true)], args := [d1, d2] }
  | _ => none }
def lawS5241AMillisRow : OpenClaim := { program := "ybulkddnc", sum := "fc3eeddb4530310a354d0e1c56c9e97b1a2eda37bde24f4934900fd1012a962b", func := "example.com/attestra/attestra/internal/federation.LawS5241AMillis", spec := "lawS5241AMillis", apart := false }
def LawS5241AMillisSaid : Prop := lawS5241AMillisRow.holds Yba.pinned (OpenSpec.ofChange lawS5241AMillisSpec)

/-- ITS FALSE NEIGHBOUR: 'it returns false'. Refute it at one input. -/
def lawS5241AMillisWrong : ChangeSpec := { name := "lawS5241AMillis", fn := fun _ => fun
  | [d1, d2] => { results := [.lit (.bool false)], args := [d1, d2] }
  | _ => none }
def LawS5241AMillisWrongFalsely : Prop := lawS5241AMillisRow.holds Yba.pinned (OpenSpec.ofChange lawS5241AMillisWrong)

end Rows
end Go.Proofs.Ybulkddnc
