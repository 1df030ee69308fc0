/-
  No cell of these rows narrows 'for every input' (looked for: loops, veiled, ifaces, maps, wideKeys, modest, calm, conditions, laid).
  DERIVED. THE GIVEN ROWS OF THIS SEAT. 4 by the template 'for every input the law returns true; each argument reads behind the call as it read before'; 0 by the template 'total and deterministic' (their statements: YbulkbbimTotals.lean).
  GIVEN WITH THE SEED: the statements are not yours to turn. If you find one false, say at which input.
  Laid BY PROGRAM, IN A SANDBOX (cutbox-rows.mjs): the forced cells as the released guide's own fill.sh prints them over the translation f8be7e3fbeb9a6eb… (all of the seat's roots in one cut). By AI agents, Wed Nov 11 2026. No macro, syntax, notation, axiom, sorry.
-/
import Derived.Test.YbulkbbimChecked
import GoSem.Claim
import GoSem.ClaimJoined
import GoSem.ClaimMapViews
import Derived.JoinedTies
import Derived.KernelRfl
namespace Go.Proofs.Ybulkbbim
/- THE CELL 'sum', in the pinned program and in every row, IS THE sha256 OF THE DUMP (.gsa) THAT YbulkbbimProg.lean LOADS. Nothing in Lean hashes anything: it is a label: what it is worth is what the hold of that sum in a sandbox is worth. -/
noncomputable def Yba.pinned : Pinned := { name := "ybulkbbim", sum := "f8be7e3fbeb9a6eb12feedcf1d78d70fa9bf3d733f3985424266d5d991e0f8b5", checked := Yba.checked }
namespace Rows
def none {H : Type} : Left H := { results := [], args := [] }

/-- 'numaline.LawS2625AStable': WHATEVER THE INPUT: true; the input reads as it did. -/
def lawS2625AStableSpec : ChangeSpec := { name := "lawS2625AStable", fn := fun _ => fun
  | [d] => { results := [.lit (.bool true)], args := [d] }
  | _ => none }
def lawS2625AStableRow : OpenClaim := { program := "ybulkbbim", sum := "f8be7e3fbeb9a6eb12feedcf1d78d70fa9bf3d733f3985424266d5d991e0f8b5", func := "example.com/numaline/numaline.LawS2625AStable", spec := "lawS2625AStable", unfollowed := true, recurses := true, apart := false }
def LawS2625AStableSaid : Prop := lawS2625AStableRow.holds Yba.pinned (OpenSpec.ofChange lawS2625AStableSpec)

/-- ITS FALSE NEIGHBOUR: 'it returns false'. Refute it at one input. -/
def lawS2625AStableWrong : ChangeSpec := { name := "lawS2625AStable", fn := fun _ => fun
  | [d] => { results := [.lit (.bool false)], args := [d] }
  | _ => none }
def LawS2625AStableWrongFalsely : Prop := lawS2625AStableRow.holds Yba.pinned (OpenSpec.ofChange lawS2625AStableWrong)

/-- 'numaline.LawS2625AAgain': WHATEVER THE INPUT: true; the input reads as it did. -/
def lawS2625AAgainSpec : ChangeSpec := { name := "lawS2625AAgain", fn := fun _ => fun
  | [d] => { results := [.lit (.bool true)], args := [d] }
  | _ => none }
def lawS2625AAgainRow : OpenClaim := { program := "ybulkbbim", sum := "f8be7e3fbeb9a6eb12feedcf1d78d70fa9bf3d733f3985424266d5d991e0f8b5", func := "example.com/numaline/numaline.LawS2625AAgain", spec := "lawS2625AAgain", unfollowed := true, recurses := true, apart := false }
def LawS2625AAgainSaid : Prop := lawS2625AAgainRow.holds Yba.pinned (OpenSpec.ofChange lawS2625AAgainSpec)

/-- ITS FALSE NEIGHBOUR: 'it returns false'. Refute it at one input. -/
def lawS2625AAgainWrong : ChangeSpec := { name := "lawS2625AAgain", fn := fun _ => fun
  | [d] => { results := [.lit (.bool false)], args := [d] }
  | _ => none }
def LawS2625AAgainWrongFalsely : Prop := lawS2625AAgainRow.holds Yba.pinned (OpenSpec.ofChange lawS2625AAgainWrong)

/-- 'numaline.LawS2625BFields': WHATEVER THE INPUT: true; the input reads as it did. -/
def lawS2625BFieldsSpec : ChangeSpec := { name := "lawS2625BFields", fn := fun _ => fun
  | [d1, d2, d3] => { results := [.lit (.bool true)], args := [d1, d2, d3] }
  | _ => none }
def lawS2625BFieldsRow : OpenClaim := { program := "ybulkbbim", sum := "f8be7e3fbeb9a6eb12feedcf1d78d70fa9bf3d733f3985424266d5d991e0f8b5", func := "example.com/numaline/numaline.LawS2625BFields", spec := "lawS2625BFields", inPlace := ["sync/atomic.StoreInt64", "sync/atomic.LoadInt64"], apart := false }
def LawS2625BFieldsSaid : Prop := lawS2625BFieldsRow.holds Yba.pinned (OpenSpec.ofChange lawS2625BFieldsSpec)

/-- ITS FALSE NEIGHBOUR: 'it returns false'. Refute it at one input. -/
def lawS2625BFieldsWrong : ChangeSpec := { name := "lawS2625BFields", fn := fun _ => fun
  | [d1, d2, d3] => { results := [.lit (.bool false)], args := [d1, d2, d3] }
  | _ => none }
def LawS2625BFieldsWrongFalsely : Prop := lawS2625BFieldsRow.holds Yba.pinned (OpenSpec.ofChange lawS2625BFieldsWrong)

/-- 'numaline.LawS2625BSpendThrough': WHATEVER THE INPUT: true; the input reads as it did. -/
def lawS2625BSpendThroughSpec : ChangeSpec := { name := "lawS2625BSpendThrough", fn := fun _ => fun
  | [d1, d2, d3] => { results := [.lit (.bool true)], args := [d1, d2, d3] }
  | _ => none }
def lawS2625BSpendThroughRow : OpenClaim := { program := "ybulkbbim", sum := "f8be7e3fbeb9a6eb12feedcf1d78d70fa9bf3d733f3985424266d5d991e0f8b5", func := "example.com/numaline/numaline.LawS2625BSpendThrough", spec := "lawS2625BSpendThrough", inPlace := ["sync/atomic.StoreInt64", "sync/atomic.AddInt64", "sync/atomic.LoadInt64"], recurses := true, apart := false }
def LawS2625BSpendThroughSaid : Prop := lawS2625BSpendThroughRow.holds Yba.pinned (OpenSpec.ofChange lawS2625BSpendThroughSpec)

/-- ITS FALSE NEIGHBOUR: 'it returns false'. Refute it at one input. -/
def lawS2625BSpendThroughWrong : ChangeSpec := { name := "lawS2625BSpendThrough", fn := fun _ => fun
  | [d1, d2, d3] => { results := [.lit (.bool false)], args := [d1, d2, d3] }
  | _ => none }
def LawS2625BSpendThroughWrongFalsely : Prop := lawS2625BSpendThroughRow.holds Yba.pinned (OpenSpec.ofChange lawS2625BSpendThroughWrong)

end Rows
end Go.Proofs.Ybulkbbim
