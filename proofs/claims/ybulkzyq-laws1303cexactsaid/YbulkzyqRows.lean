/-
  No cell of these rows narrows 'for every input' (looked for: loops, veiled, ifaces, maps, wideKeys, modest, calm, conditions, laid).
  DERIVED. THE GIVEN ROWS OF THIS SEAT. 2 by the template 'for every input the law returns true; each argument reads behind the call as it read before'; 0 by the template 'total and deterministic' (their statements: YbulkzyqTotals.lean).
  GIVEN WITH THE SEED: the statements are not yours to turn. If you find one false, say at which input.
  Laid BY PROGRAM, IN A SANDBOX (cutbox-rows.mjs): the forced cells as the released guide's own fill.sh prints them over the translation 9421189cb1badb07… (all of the seat's roots in one cut). By AI agents, Wed Nov 11 2026. No macro, syntax, notation, axiom, sorry.
-/
import Derived.Test.YbulkzyqChecked
import GoSem.Claim
import GoSem.ClaimJoined
import GoSem.ClaimMapViews
import Derived.JoinedTies
import Derived.KernelRfl
namespace Go.Proofs.Ybulkzyq
/- THE CELL 'sum', in the pinned program and in every row, IS THE sha256 OF THE DUMP (.gsa) THAT YbulkzyqProg.lean LOADS. Nothing in Lean hashes anything: it is a label: what it is worth is what the hold of that sum in a sandbox is worth. -/
noncomputable def Yba.pinned : Pinned := { name := "ybulkzyq", sum := "9421189cb1badb0760c3f6b667ef228c89ac0024e39e55659bd2bc399e974b3a", checked := Yba.checked }
namespace Rows
def none {H : Type} : Left H := { results := [], args := [] }

/-- 'decimal.LawS1303CExact': WHATEVER THE INPUT: true; the input reads as it did. -/
def lawS1303CExactSpec : ChangeSpec := { name := "lawS1303CExact", fn := fun _ => fun
  | [d] => { results := [.lit (.bool true)], args := [d] }
  | _ => none }
def lawS1303CExactRow : OpenClaim := { program := "ybulkzyq", sum := "9421189cb1badb0760c3f6b667ef228c89ac0024e39e55659bd2bc399e974b3a", func := "example.com/zhaomu/zhaomu/decimal.LawS1303CExact", spec := "lawS1303CExact", apart := false }
def LawS1303CExactSaid : Prop := lawS1303CExactRow.holds Yba.pinned (OpenSpec.ofChange lawS1303CExactSpec)

/-- ITS FALSE NEIGHBOUR: 'it returns false'. Refute it at one input. -/
def lawS1303CExactWrong : ChangeSpec := { name := "lawS1303CExact", fn := fun _ => fun
  | [d] => { results := [.lit (.bool false)], args := [d] }
  | _ => none }
def LawS1303CExactWrongFalsely : Prop := lawS1303CExactRow.holds Yba.pinned (OpenSpec.ofChange lawS1303CExactWrong)

/-- 'decimal.LawS1303CBuilt': WHATEVER THE INPUT: true; the input reads as it did. -/
def lawS1303CBuiltSpec : ChangeSpec := { name := "lawS1303CBuilt", fn := fun _ => fun
  | [d] => { results := [.lit (.bool true)], args := [d] }
  | _ => none }
def lawS1303CBuiltRow : OpenClaim := { program := "ybulkzyq", sum := "9421189cb1badb0760c3f6b667ef228c89ac0024e39e55659bd2bc399e974b3a", func := "example.com/zhaomu/zhaomu/decimal.LawS1303CBuilt", spec := "lawS1303CBuilt", apart := false }
def LawS1303CBuiltSaid : Prop := lawS1303CBuiltRow.holds Yba.pinned (OpenSpec.ofChange lawS1303CBuiltSpec)

/-- ITS FALSE NEIGHBOUR: 'it returns false'. Refute it at one input. -/
def lawS1303CBuiltWrong : ChangeSpec := { name := "lawS1303CBuilt", fn := fun _ => fun
  | [d] => { results := [.lit (.bool false)], args := [d] }
  | _ => none }
def LawS1303CBuiltWrongFalsely : Prop := lawS1303CBuiltRow.holds Yba.pinned (OpenSpec.ofChange lawS1303CBuiltWrong)

end Rows
end Go.Proofs.Ybulkzyq
