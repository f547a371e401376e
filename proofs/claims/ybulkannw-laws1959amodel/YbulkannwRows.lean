/-
  No cell of these rows narrows 'for every input' (looked for: loops, veiled, ifaces, maps, wideKeys, modest, calm, conditions, laid).
  DERIVED. THE GIVEN ROWS OF THIS SEAT. 3 by the template 'for every input the law returns true; each argument reads behind the call as it read before'; 0 by the template 'total and deterministic' (their statements: YbulkannwTotals.lean).
  GIVEN WITH THE SEED: the statements are not yours to turn. If you find one false, say at which input.
  Laid BY PROGRAM, IN A SANDBOX (cutbox-rows.mjs): the forced cells as the released guide's own fill.sh prints them over the translation f8a8ae318f4ee65c… (all of the seat's roots in one cut). By AI agents, Wed Nov 11 2026. No macro, syntax, notation, axiom, sorry.
-/
import Derived.Test.YbulkannwChecked
import GoSem.Claim
import GoSem.ClaimJoined
import GoSem.ClaimMapViews
import Derived.JoinedTies
import Derived.KernelRfl
namespace Go.Proofs.Ybulkannw
/- THE CELL 'sum', in the pinned program and in every row, IS THE sha256 OF THE DUMP (.gsa) THAT YbulkannwProg.lean LOADS. Nothing in Lean hashes anything: it is a label: what it is worth is what the hold of that sum in a sandbox is worth. -/
noncomputable def Yba.pinned : Pinned := { name := "ybulkannw", sum := "f8a8ae318f4ee65cb05356490470ae1d517fbad0701669b49d1f0f07d73f7961", checked := Yba.checked }
namespace Rows
def none {H : Type} : Left H := { results := [], args := [] }

/-- 'accesslog.LawS1959AModel': WHATEVER THE INPUT: true; the input reads as it did. -/
def lawS1959AModelSpec : ChangeSpec := { name := "lawS1959AModel", fn := fun _ => fun
  | [d1, d2] => { results := [.lit (.bool true)], args := [d1, d2] }
  | _ => none }
def lawS1959AModelRow : OpenClaim := { program := "ybulkannw", sum := "f8a8ae318f4ee65cb05356490470ae1d517fbad0701669b49d1f0f07d73f7961", func := "example.com/balde/balde/internal/accesslog.LawS1959AModel", spec := "lawS1959AModel", apart := false }
def LawS1959AModelSaid : Prop := lawS1959AModelRow.holds Yba.pinned (OpenSpec.ofChange lawS1959AModelSpec)

/-- ITS FALSE NEIGHBOUR: 'it returns false'. Refute it at one input. -/
def lawS1959AModelWrong : ChangeSpec := { name := "lawS1959AModel", fn := fun _ => fun
  | [d1, d2] => { results := [.lit (.bool false)], args := [d1, d2] }
  | _ => none }
def LawS1959AModelWrongFalsely : Prop := lawS1959AModelRow.holds Yba.pinned (OpenSpec.ofChange lawS1959AModelWrong)

/-- 'accesslog.LawS1959ASmall': WHATEVER THE INPUT: true; the input reads as it did. -/
def lawS1959ASmallSpec : ChangeSpec := { name := "lawS1959ASmall", fn := fun _ => fun
  | [d1, d2] => { results := [.lit (.bool true)], args := [d1, d2] }
  | _ => none }
def lawS1959ASmallRow : OpenClaim := { program := "ybulkannw", sum := "f8a8ae318f4ee65cb05356490470ae1d517fbad0701669b49d1f0f07d73f7961", func := "example.com/balde/balde/internal/accesslog.LawS1959ASmall", spec := "lawS1959ASmall", apart := false }
def LawS1959ASmallSaid : Prop := lawS1959ASmallRow.holds Yba.pinned (OpenSpec.ofChange lawS1959ASmallSpec)

/-- ITS FALSE NEIGHBOUR: 'it returns false'. Refute it at one input. -/
def lawS1959ASmallWrong : ChangeSpec := { name := "lawS1959ASmall", fn := fun _ => fun
  | [d1, d2] => { results := [.lit (.bool false)], args := [d1, d2] }
  | _ => none }
def LawS1959ASmallWrongFalsely : Prop := lawS1959ASmallRow.holds Yba.pinned (OpenSpec.ofChange lawS1959ASmallWrong)

/-- 'accesslog.LawS1959AReflexive': WHATEVER THE INPUT: true; the input reads as it did. -/
def lawS1959AReflexiveSpec : ChangeSpec := { name := "lawS1959AReflexive", fn := fun _ => fun
  | [d] => { results := [.lit (.bool true)], args := [d] }
  | _ => none }
def lawS1959AReflexiveRow : OpenClaim := { program := "ybulkannw", sum := "f8a8ae318f4ee65cb05356490470ae1d517fbad0701669b49d1f0f07d73f7961", func := "example.com/balde/balde/internal/accesslog.LawS1959AReflexive", spec := "lawS1959AReflexive", apart := false }
def LawS1959AReflexiveSaid : Prop := lawS1959AReflexiveRow.holds Yba.pinned (OpenSpec.ofChange lawS1959AReflexiveSpec)

/-- ITS FALSE NEIGHBOUR: 'it returns false'. Refute it at one input. -/
def lawS1959AReflexiveWrong : ChangeSpec := { name := "lawS1959AReflexive", fn := fun _ => fun
  | [d] => { results := [.lit (.bool false)], args := [d] }
  | _ => none }
def LawS1959AReflexiveWrongFalsely : Prop := lawS1959AReflexiveRow.holds Yba.pinned (OpenSpec.ofChange lawS1959AReflexiveWrong)

end Rows
end Go.Proofs.Ybulkannw
