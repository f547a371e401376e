/-
  No cell of these rows narrows 'for every input' (looked for: loops, veiled, ifaces, maps, wideKeys, modest, calm, conditions, laid).
  DERIVED. THE GIVEN ROWS OF THIS SEAT. 2 by the template 'for every input the law returns true; each argument reads behind the call as it read before'; 0 by the template 'total and deterministic' (their statements: YbulkanmuTotals.lean).
  GIVEN WITH THE SEED: the statements are not yours to turn. If you find one false, say at which input.
  Laid BY PROGRAM, IN A SANDBOX (cutbox-rows.mjs): the forced cells as the released guide's own fill.sh prints them over the translation 6b1f72abe18f2710… (all of the seat's roots in one cut). By AI agents, Wed Nov 11 2026. No macro, syntax, notation, axiom, sorry.
-/
import Derived.Test.YbulkanmuChecked
import GoSem.Claim
import GoSem.ClaimJoined
import GoSem.ClaimMapViews
import Derived.JoinedTies
import Derived.KernelRfl
namespace Go.Proofs.Ybulkanmu
/- THE CELL 'sum', in the pinned program and in every row, IS THE sha256 OF THE DUMP (.gsa) THAT YbulkanmuProg.lean LOADS. Nothing in Lean hashes anything: it is a label: what it is worth is what the hold of that sum in a sandbox is worth. -/
noncomputable def Yba.pinned : Pinned := { name := "ybulkanmu", sum := "6b1f72abe18f2710a6905802ee47aa3ca41a992bfa0c12b93597edfdda6538d8", checked := Yba.checked }
namespace Rows
def none {H : Type} : Left H := { results := [], args := [] }

/-- 'node.LawS1957ASet': WHATEVER THE INPUT: true; the input reads as it did. -/
def lawS1957ASetSpec : ChangeSpec := { name := "lawS1957ASet", fn := fun _ => fun
  | [d1, d2, d3, d4] => { results := [.lit (.bool true)], args := [d1, d2, d3, d4] }
  | _ => none }
def lawS1957ASetRow : OpenClaim := { program := "ybulkanmu", sum := "6b1f72abe18f2710a6905802ee47aa3ca41a992bfa0c12b93597edfdda6538d8", func := "example.com/quorumlog/quorumlog/internal/node.LawS1957ASet", spec := "lawS1957ASet", apart := false }
def LawS1957ASetSaid : Prop := lawS1957ASetRow.holds Yba.pinned (OpenSpec.ofChange lawS1957ASetSpec)

/-- ITS FALSE NEIGHBOUR: 'it returns false'. Refute it at one input. -/
def lawS1957ASetWrong : ChangeSpec := { name := "lawS1957ASet", fn := fun _ => fun
  | [d1, d2, d3, d4] => { results := [.lit (.bool false)], args := [d1, d2, d3, d4] }
  | _ => none }
def LawS1957ASetWrongFalsely : Prop := lawS1957ASetRow.holds Yba.pinned (OpenSpec.ofChange lawS1957ASetWrong)

/-- 'node.LawS1957AScript': WHATEVER THE INPUT: true; the input reads as it did. -/
def lawS1957AScriptSpec : ChangeSpec := { name := "lawS1957AScript", fn := fun _ => fun
  | [d] => { results := [.lit (.bool true)], args := [d] }
  | _ => none }
def lawS1957AScriptRow : OpenClaim := { program := "ybulkanmu", sum := "6b1f72abe18f2710a6905802ee47aa3ca41a992bfa0c12b93597edfdda6538d8", func := "example.com/quorumlog/quorumlog/internal/node.LawS1957AScript", spec := "lawS1957AScript", apart := false }
def LawS1957AScriptSaid : Prop := lawS1957AScriptRow.holds Yba.pinned (OpenSpec.ofChange lawS1957AScriptSpec)

/-- ITS FALSE NEIGHBOUR: 'it returns false'. Refute it at one input. -/
def lawS1957AScriptWrong : ChangeSpec := { name := "lawS1957AScript", fn := fun _ => fun
  | [d] => { results := [.lit (.bool false)], args := [d] }
  | _ => none }
def LawS1957AScriptWrongFalsely : Prop := lawS1957AScriptRow.holds Yba.pinned (OpenSpec.ofChange lawS1957AScriptWrong)

end Rows
end Go.Proofs.Ybulkanmu
