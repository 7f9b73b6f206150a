/-
  No cell of these rows narrows 'for every input' (looked for: loops, veiled, ifaces, maps, wideKeys, modest, calm, conditions, laid).
  DERIVED. THE GIVEN ROWS OF THIS SEAT. 3 by the template 'for every input the law returns true; each argument reads behind the call as it read before'; 0 by the template 'total and deterministic' (their statements: YbulkddqwTotals.lean).
  GIVEN WITH THE SEED: the statements are not yours to turn. If you find one false, say at which input.
  Laid BY PROGRAM, IN A SANDBOX (cutbox-rows.mjs): the forced cells as the released guide's own fill.sh prints them over the translation 864ae98c0dc683a0… (all of the seat's roots in one cut). By AI agents, Wed Nov 11 2026. No macro, syntax, notation, axiom, sorry.
-/
import Derived.Test.YbulkddqwChecked
import GoSem.Claim
import GoSem.ClaimJoined
import GoSem.ClaimMapViews
import Derived.JoinedTies
import Derived.KernelRfl
namespace Go.Proofs.Ybulkddqw
/- THE CELL 'sum', in the pinned program and in every row, IS THE sha256 OF THE DUMP (.gsa) THAT YbulkddqwProg.lean LOADS. Nothing in Lean hashes anything: it is a label: what it is worth is what the hold of that sum in a sandbox is worth. -/
noncomputable def Yba.pinned : Pinned := { name := "ybulkddqw", sum := "864ae98c0dc683a045ffb2ffe084868d232d1985a6289020354124e8fc7d834b", checked := Yba.checked }
namespace Rows
def none {H : Type} : Left H := { results := [], args := [] }

/-- 'nearhop.LawS5248AHandBacks': WHATEVER THE INPUT: true; the input reads as it did. -/
def lawS5248AHandBacksSpec : ChangeSpec := { name := "lawS5248AHandBacks", fn := fun _ => fun
  | [d1, d2, d3, d4, d5] => { results := [.lit (.bool true)], args := [d1, d2, d3, d4, d5] }
  | _ => none }
def lawS5248AHandBacksRow : OpenClaim := { program := "ybulkddqw", sum := "864ae98c0dc683a045ffb2ffe084868d232d1985a6289020354124e8fc7d834b", func := "example.com/nearhop/nearhop.LawS5248AHandBacks", spec := "lawS5248AHandBacks", inPlace := ["internal/bytealg.Compare"], plainKeys := false, apart := false }
def LawS5248AHandBacksSaid : Prop := lawS5248AHandBacksRow.holds Yba.pinned (OpenSpec.ofChange lawS5248AHandBacksSpec)

/-- ITS FALSE NEIGHBOUR: 'it returns false'. Refute it at one input. -/
def lawS5248AHandBacksWrong : ChangeSpec := { name := "lawS5248AHandBacks", fn := fun _ => fun
  | [d1, d2, d3, d4, d5] => { results := [.lit (.bool false)], args := [d1, d2, d3, d4, d5] }
  | _ => none }
def LawS5248AHandBacksWrongFalsely : Prop := lawS5248AHandBacksRow.holds Yba.pinned (OpenSpec.ofChange lawS5248AHandBacksWrong)

/-- 'nearhop.LawS5248CAddBack': WHATEVER THE INPUT: true; the input reads as it did. -/
def lawS5248CAddBackSpec : ChangeSpec := { name := "lawS5248CAddBack", fn := fun _ => fun
  | [d1, d2, d3] => { results := [.lit (.bool true)], args := [d1, d2, d3] }
  | _ => none }
def lawS5248CAddBackRow : OpenClaim := { program := "ybulkddqw", sum := "864ae98c0dc683a045ffb2ffe084868d232d1985a6289020354124e8fc7d834b", func := "example.com/nearhop/nearhop.LawS5248CAddBack", spec := "lawS5248CAddBack", plainKeys := false, apart := false }
def LawS5248CAddBackSaid : Prop := lawS5248CAddBackRow.holds Yba.pinned (OpenSpec.ofChange lawS5248CAddBackSpec)

/-- ITS FALSE NEIGHBOUR: 'it returns false'. Refute it at one input. -/
def lawS5248CAddBackWrong : ChangeSpec := { name := "lawS5248CAddBack", fn := fun _ => fun
  | [d1, d2, d3] => { results := [.lit (.bool false)], args := [d1, d2, d3] }
  | _ => none }
def LawS5248CAddBackWrongFalsely : Prop := lawS5248CAddBackRow.holds Yba.pinned (OpenSpec.ofChange lawS5248CAddBackWrong)

/-- 'nearhop.LawS5248CNegate': WHATEVER THE INPUT: true; the input reads as it did. -/
def lawS5248CNegateSpec : ChangeSpec := { name := "lawS5248CNegate", fn := fun _ => fun
  | [d1, d2, d3] => { results := [.lit (.bool true)], args := [d1, d2, d3] }
  | _ => none }
def lawS5248CNegateRow : OpenClaim := { program := "ybulkddqw", sum := "864ae98c0dc683a045ffb2ffe084868d232d1985a6289020354124e8fc7d834b", func := "example.com/nearhop/nearhop.LawS5248CNegate", spec := "lawS5248CNegate", plainKeys := false, apart := false }
def LawS5248CNegateSaid : Prop := lawS5248CNegateRow.holds Yba.pinned (OpenSpec.ofChange lawS5248CNegateSpec)

/-- ITS FALSE NEIGHBOUR: 'it returns false'. Refute it at one input. -/
def lawS5248CNegateWrong : ChangeSpec := { name := "lawS5248CNegate", fn := fun _ => fun
  | [d1, d2, d3] => { results := [.lit (.bool false)], args := [d1, d2, d3] }
  | _ => none }
def LawS5248CNegateWrongFalsely : Prop := lawS5248CNegateRow.holds Yba.pinned (OpenSpec.ofChange lawS5248CNegateWrong)

end Rows
end Go.Proofs.Ybulkddqw
