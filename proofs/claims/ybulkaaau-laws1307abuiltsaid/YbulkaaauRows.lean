/-
  No cell of these rows narrows 'for every input' (looked for: loops, veiled, ifaces, maps, wideKeys, modest, calm, conditions, laid).
  DERIVED. THE GIVEN ROWS OF THIS SEAT. 4 by the template 'for every input the law returns true; each argument reads behind the call as it read before'; 0 by the template 'total and deterministic' (their statements: YbulkaaauTotals.lean).
  GIVEN WITH THE SEED: the statements are not yours to turn. If you find one false, say at which input.
  Laid BY PROGRAM, IN A SANDBOX (cutbox-rows.mjs): the forced cells as the released guide's own fill.sh prints them over the translation fc61a7ffe64108ab… (all of the seat's roots in one cut). By AI agents, Wed Nov 11 2026. No macro, syntax, notation, axiom, sorry.
-/
import Derived.Test.YbulkaaauChecked
import GoSem.Claim
import GoSem.ClaimJoined
import GoSem.ClaimMapViews
import Derived.JoinedTies
import Derived.KernelRfl
namespace Go.Proofs.Ybulkaaau
/- THE CELL 'sum', in the pinned program and in every row, IS THE sha256 OF THE DUMP (.gsa) THAT YbulkaaauProg.lean LOADS. Nothing in Lean hashes anything: it is a label: what it is worth is what the hold of that sum in a sandbox is worth. -/
noncomputable def Yba.pinned : Pinned := { name := "ybulkaaau", sum := "fc61a7ffe64108ab38311c01e78046e19d746ae676f5776c36c94d7114911446", checked := Yba.checked }
namespace Rows
def none {H : Type} : Left H := { results := [], args := [] }

/-- 'opzioni.LawS1307AModel': WHATEVER THE INPUT: true; the input reads as it did. -/
def lawS1307AModelSpec : ChangeSpec := { name := "lawS1307AModel", fn := fun _ => fun
  | [d1, d2, d3] => { results := [.lit (.bool true)], args := [d1, d2, d3] }
  | _ => none }
def lawS1307AModelRow : OpenClaim := { program := "ybulkaaau", sum := "fc61a7ffe64108ab38311c01e78046e19d746ae676f5776c36c94d7114911446", func := "example.com/opzioni/opzioni.LawS1307AModel", spec := "lawS1307AModel", apart := false }
def LawS1307AModelSaid : Prop := lawS1307AModelRow.holds Yba.pinned (OpenSpec.ofChange lawS1307AModelSpec)

/-- ITS FALSE NEIGHBOUR: 'it returns false'. Refute it at one input. -/
def lawS1307AModelWrong : ChangeSpec := { name := "lawS1307AModel", fn := fun _ => fun
  | [d1, d2, d3] => { results := [.lit (.bool false)], args := [d1, d2, d3] }
  | _ => none }
def LawS1307AModelWrongFalsely : Prop := lawS1307AModelRow.holds Yba.pinned (OpenSpec.ofChange lawS1307AModelWrong)

/-- 'opzioni.LawS1307ABuilt': WHATEVER THE INPUT: true; the input reads as it did. -/
def lawS1307ABuiltSpec : ChangeSpec := { name := "lawS1307ABuilt", fn := fun _ => fun
  | [d1, d2, d3] => { results := [.lit (.bool true)], args := [d1, d2, d3] }
  | _ => none }
def lawS1307ABuiltRow : OpenClaim := { program := "ybulkaaau", sum := "fc61a7ffe64108ab38311c01e78046e19d746ae676f5776c36c94d7114911446", func := "example.com/opzioni/opzioni.LawS1307ABuilt", spec := "lawS1307ABuilt", apart := false }
def LawS1307ABuiltSaid : Prop := lawS1307ABuiltRow.holds Yba.pinned (OpenSpec.ofChange lawS1307ABuiltSpec)

/-- ITS FALSE NEIGHBOUR: 'it returns false'. Refute it at one input. -/
def lawS1307ABuiltWrong : ChangeSpec := { name := "lawS1307ABuilt", fn := fun _ => fun
  | [d1, d2, d3] => { results := [.lit (.bool false)], args := [d1, d2, d3] }
  | _ => none }
def LawS1307ABuiltWrongFalsely : Prop := lawS1307ABuiltRow.holds Yba.pinned (OpenSpec.ofChange lawS1307ABuiltWrong)

/-- 'opzioni.LawS1307BSetCalls': WHATEVER THE INPUT: true; the input reads as it did. -/
def lawS1307BSetCallsSpec : ChangeSpec := { name := "lawS1307BSetCalls", fn := fun _ => fun
  | [d] => { results := [.lit (.bool true)], args := [d] }
  | _ => none }
def lawS1307BSetCallsRow : OpenClaim := { program := "ybulkaaau", sum := "fc61a7ffe64108ab38311c01e78046e19d746ae676f5776c36c94d7114911446", func := "example.com/opzioni/opzioni.LawS1307BSetCalls", spec := "lawS1307BSetCalls", unfollowed := true, recurses := true, apart := false }
def LawS1307BSetCallsSaid : Prop := lawS1307BSetCallsRow.holds Yba.pinned (OpenSpec.ofChange lawS1307BSetCallsSpec)

/-- ITS FALSE NEIGHBOUR: 'it returns false'. Refute it at one input. -/
def lawS1307BSetCallsWrong : ChangeSpec := { name := "lawS1307BSetCalls", fn := fun _ => fun
  | [d] => { results := [.lit (.bool false)], args := [d] }
  | _ => none }
def LawS1307BSetCallsWrongFalsely : Prop := lawS1307BSetCallsRow.holds Yba.pinned (OpenSpec.ofChange lawS1307BSetCallsWrong)

/-- 'opzioni.LawS1307BTable': WHATEVER THE INPUT: true; the input reads as it did. -/
def lawS1307BTableSpec : ChangeSpec := { name := "lawS1307BTable", fn := fun _ => fun
  | [d] => { results := [.lit (.bool true)], args := [d] }
  | _ => none }
def lawS1307BTableRow : OpenClaim := { program := "ybulkaaau", sum := "fc61a7ffe64108ab38311c01e78046e19d746ae676f5776c36c94d7114911446", func := "example.com/opzioni/opzioni.LawS1307BTable", spec := "lawS1307BTable", unfollowed := true, recurses := true, apart := false }
def LawS1307BTableSaid : Prop := lawS1307BTableRow.holds Yba.pinned (OpenSpec.ofChange lawS1307BTableSpec)

/-- ITS FALSE NEIGHBOUR: 'it returns false'. Refute it at one input. -/
def lawS1307BTableWrong : ChangeSpec := { name := "lawS1307BTable", fn := fun _ => fun
  | [d] => { results := [.lit (.bool false)], args := [d] }
  | _ => none }
def LawS1307BTableWrongFalsely : Prop := lawS1307BTableRow.holds Yba.pinned (OpenSpec.ofChange lawS1307BTableWrong)

end Rows
end Go.Proofs.Ybulkaaau
