/-
  No cell of these rows narrows 'for every input' (looked for: loops, veiled, ifaces, maps, wideKeys, modest, calm, conditions, laid).
  DERIVED. THE GIVEN ROWS OF THIS SEAT. 2 by the template 'for every input the law returns true; each argument reads behind the call as it read before'; 0 by the template 'total and deterministic' (their statements: YbulkanoyTotals.lean).
  GIVEN WITH THE SEED: the statements are not yours to turn. If you find one false, say at which input.
  Laid BY PROGRAM, IN A SANDBOX (cutbox-rows.mjs): the forced cells as the released guide's own fill.sh prints them over the translation a6aa516d3f5a95d3… (all of the seat's roots in one cut). By AI agents, Wed Nov 11 2026. No macro, syntax, notation, axiom, sorry.
-/
import Derived.Test.YbulkanoyChecked
import GoSem.Claim
import GoSem.ClaimJoined
import GoSem.ClaimMapViews
import Derived.JoinedTies
import Derived.KernelRfl
namespace Go.Proofs.Ybulkanoy
/- THE CELL 'sum', in the pinned program and in every row, IS THE sha256 OF THE DUMP (.gsa) THAT YbulkanoyProg.lean LOADS. Nothing in Lean hashes anything: it is a label: what it is worth is what the hold of that sum in a sandbox is worth. -/
noncomputable def Yba.pinned : Pinned := { name := "ybulkanoy", sum := "a6aa516d3f5a95d3fbdaafad333b7e87139be6a8100353a5b60c0a8bf1147ed5", checked := Yba.checked }
namespace Rows
def none {H : Type} : Left H := { results := [], args := [] }

/-- 'workload.LawS1961CRecordCounts': WHATEVER THE INPUT: true; the input reads as it did. -/
def lawS1961CRecordCountsSpec : ChangeSpec := { name := "lawS1961CRecordCounts", fn := fun _ => fun
  | [d] => { results := [.lit (.bool true)], args := [d] }
  | _ => none }
def lawS1961CRecordCountsRow : OpenClaim := { program := "ybulkanoy", sum := "a6aa516d3f5a95d3fbdaafad333b7e87139be6a8100353a5b60c0a8bf1147ed5", func := "example.com/tidemap/tidemap/internal/workload.LawS1961CRecordCounts", spec := "lawS1961CRecordCounts", apart := false }
def LawS1961CRecordCountsSaid : Prop := lawS1961CRecordCountsRow.holds Yba.pinned (OpenSpec.ofChange lawS1961CRecordCountsSpec)

/-- ITS FALSE NEIGHBOUR: 'it returns false'. Refute it at one input. -/
def lawS1961CRecordCountsWrong : ChangeSpec := { name := "lawS1961CRecordCounts", fn := fun _ => fun
  | [d] => { results := [.lit (.bool false)], args := [d] }
  | _ => none }
def LawS1961CRecordCountsWrongFalsely : Prop := lawS1961CRecordCountsRow.holds Yba.pinned (OpenSpec.ofChange lawS1961CRecordCountsWrong)

/-- 'workload.LawS1961CNegIsZero': WHATEVER THE INPUT: true; the input reads as it did. -/
def lawS1961CNegIsZeroSpec : ChangeSpec := { name := "lawS1961CNegIsZero", fn := fun _ => fun
  | [d1, d2] => { results := [.lit (.bool true)], args := [d1, d2] }
  | _ => none }
def lawS1961CNegIsZeroRow : OpenClaim := { program := "ybulkanoy", sum := "a6aa516d3f5a95d3fbdaafad333b7e87139be6a8100353a5b60c0a8bf1147ed5", func := "example.com/tidemap/tidemap/internal/workload.LawS1961CNegIsZero", spec := "lawS1961CNegIsZero", apart := false }
def LawS1961CNegIsZeroSaid : Prop := lawS1961CNegIsZeroRow.holds Yba.pinned (OpenSpec.ofChange lawS1961CNegIsZeroSpec)

/-- ITS FALSE NEIGHBOUR: 'it returns false'. Refute it at one input. -/
def lawS1961CNegIsZeroWrong : ChangeSpec := { name := "lawS1961CNegIsZero", fn := fun _ => fun
  | [d1, d2] => { results := [.lit (.bool false)], args := [d1, d2] }
  | _ => none }
def LawS1961CNegIsZeroWrongFalsely : Prop := lawS1961CNegIsZeroRow.holds Yba.pinned (OpenSpec.ofChange lawS1961CNegIsZeroWrong)

end Rows
end Go.Proofs.Ybulkanoy
