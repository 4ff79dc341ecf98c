/-
  No cell of these rows narrows 'for every input' (looked for: loops, veiled, ifaces, maps, wideKeys, modest, calm, conditions, laid).
  DERIVED. THE GIVEN ROWS OF THIS SEAT. 4 by the template 'for every input the law returns true; each argument reads behind the call as it read before'; 0 by the template 'total and deterministic' (their statements: YbulkzvkTotals.lean).
  GIVEN WITH THE SEED: the statements are not yours to turn. If you find one false, say at which input.
  Laid BY PROGRAM, IN A SANDBOX (cutbox-rows.mjs): the forced cells as the released guide's own fill.sh prints them over the translation 9b501599441b6678… (all of the seat's roots in one cut). By AI agents, Wed Nov 11 2026. No macro, syntax, notation, axiom, sorry.
-/
import Derived.Test.YbulkzvkChecked
import GoSem.Claim
import GoSem.ClaimJoined
import GoSem.ClaimMapViews
import Derived.JoinedTies
import Derived.KernelRfl
namespace Go.Proofs.Ybulkzvk
/- THE CELL 'sum', in the pinned program and in every row, IS THE sha256 OF THE DUMP (.gsa) THAT YbulkzvkProg.lean LOADS. Nothing in Lean hashes anything: it is a label: what it is worth is what the hold of that sum in a sandbox is worth. -/
noncomputable def Yba.pinned : Pinned := { name := "ybulkzvk", sum := "9b501599441b6678a4cb4a9c21e4f9210c9fc66490b93a70a0f77519c8888b78", checked := Yba.checked }
namespace Rows
def none {H : Type} : Left H := { results := [], args := [] }

/-- 'haguruma.LawS1297AModel': WHATEVER THE INPUT: true; the input reads as it did. -/
def lawS1297AModelSpec : ChangeSpec := { name := "lawS1297AModel", fn := fun _ => fun
  | [d1, d2, d3] => { results := [.lit (.bool true)], args := [d1, d2, d3] }
  | _ => none }
def lawS1297AModelRow : OpenClaim := { program := "ybulkzvk", sum := "9b501599441b6678a4cb4a9c21e4f9210c9fc66490b93a70a0f77519c8888b78", func := "example.com/haguruma/haguruma.LawS1297AModel", spec := "lawS1297AModel", apart := false }
def LawS1297AModelSaid : Prop := lawS1297AModelRow.holds Yba.pinned (OpenSpec.ofChange lawS1297AModelSpec)

/-- ITS FALSE NEIGHBOUR: 'it returns false'. Refute it at one input. -/
def lawS1297AModelWrong : ChangeSpec := { name := "lawS1297AModel", fn := fun _ => fun
  | [d1, d2, d3] => { results := [.lit (.bool false)], args := [d1, d2, d3] }
  | _ => none }
def LawS1297AModelWrongFalsely : Prop := lawS1297AModelRow.holds Yba.pinned (OpenSpec.ofChange lawS1297AModelWrong)

/-- 'haguruma.LawS1297AMonotone': WHATEVER THE INPUT: true; the input reads as it did. -/
def lawS1297AMonotoneSpec : ChangeSpec := { name := "lawS1297AMonotone", fn := fun _ => fun
  | [d1, d2, d3, d4] => { results := [.lit (.bool true)], args := [d1, d2, d3, d4] }
  | _ => none }
def lawS1297AMonotoneRow : OpenClaim := { program := "ybulkzvk", sum := "9b501599441b6678a4cb4a9c21e4f9210c9fc66490b93a70a0f77519c8888b78", func := "example.com/haguruma/haguruma.LawS1297AMonotone", spec := "lawS1297AMonotone", apart := false }
def LawS1297AMonotoneSaid : Prop := lawS1297AMonotoneRow.holds Yba.pinned (OpenSpec.ofChange lawS1297AMonotoneSpec)

/-- ITS FALSE NEIGHBOUR: 'it returns false'. Refute it at one input. -/
def lawS1297AMonotoneWrong : ChangeSpec := { name := "lawS1297AMonotone", fn := fun _ => fun
  | [d1, d2, d3, d4] => { results := [.lit (.bool false)], args := [d1, d2, d3, d4] }
  | _ => none }
def LawS1297AMonotoneWrongFalsely : Prop := lawS1297AMonotoneRow.holds Yba.pinned (OpenSpec.ofChange lawS1297AMonotoneWrong)

/-- 'haguruma.LawS1297CSchedule': WHATEVER THE INPUT: true; the input reads as it did. -/
def lawS1297CScheduleSpec : ChangeSpec := { name := "lawS1297CSchedule", fn := fun _ => fun
  | [d1, d2, d3, d4] => { results := [.lit (.bool true)], args := [d1, d2, d3, d4] }
  | _ => none }
def lawS1297CScheduleRow : OpenClaim := { program := "ybulkzvk", sum := "9b501599441b6678a4cb4a9c21e4f9210c9fc66490b93a70a0f77519c8888b78", func := "example.com/haguruma/haguruma.LawS1297CSchedule", spec := "lawS1297CSchedule", inPlace := ["sync/atomic.StoreUint64", "sync/atomic.LoadUint64", "sync/atomic.CompareAndSwapUint64"], unfollowed := true, recurses := true, apart := false }
def LawS1297CScheduleSaid : Prop := lawS1297CScheduleRow.holds Yba.pinned (OpenSpec.ofChange lawS1297CScheduleSpec)

/-- ITS FALSE NEIGHBOUR: 'it returns false'. Refute it at one input. -/
def lawS1297CScheduleWrong : ChangeSpec := { name := "lawS1297CSchedule", fn := fun _ => fun
  | [d1, d2, d3, d4] => { results := [.lit (.bool false)], args := [d1, d2, d3, d4] }
  | _ => none }
def LawS1297CScheduleWrongFalsely : Prop := lawS1297CScheduleRow.holds Yba.pinned (OpenSpec.ofChange lawS1297CScheduleWrong)

/-- 'haguruma.LawS1297CStopped': WHATEVER THE INPUT: true; the input reads as it did. -/
def lawS1297CStoppedSpec : ChangeSpec := { name := "lawS1297CStopped", fn := fun _ => fun
  | [d1, d2, d3, d4, d5] => { results := [.lit (.bool true)], args := [d1, d2, d3, d4, d5] }
  | _ => none }
def lawS1297CStoppedRow : OpenClaim := { program := "ybulkzvk", sum := "9b501599441b6678a4cb4a9c21e4f9210c9fc66490b93a70a0f77519c8888b78", func := "example.com/haguruma/haguruma.LawS1297CStopped", spec := "lawS1297CStopped", inPlace := ["sync/atomic.StoreUint64", "sync/atomic.LoadUint64", "sync/atomic.CompareAndSwapUint64"], unfollowed := true, recurses := true, apart := false }
def LawS1297CStoppedSaid : Prop := lawS1297CStoppedRow.holds Yba.pinned (OpenSpec.ofChange lawS1297CStoppedSpec)

/-- ITS FALSE NEIGHBOUR: 'it returns false'. Refute it at one input. -/
def lawS1297CStoppedWrong : ChangeSpec := { name := "lawS1297CStopped", fn := fun _ => fun
  | [d1, d2, d3, d4, d5] => { results := [.lit (.bool false)], args := [d1, d2, d3, d4, d5] }
  | _ => none }
def LawS1297CStoppedWrongFalsely : Prop := lawS1297CStoppedRow.holds Yba.pinned (OpenSpec.ofChange lawS1297CStoppedWrong)

end Rows
end Go.Proofs.Ybulkzvk
