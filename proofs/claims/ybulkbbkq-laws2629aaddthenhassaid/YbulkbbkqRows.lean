/-
  No cell of these rows narrows 'for every input' (looked for: loops, veiled, ifaces, maps, wideKeys, modest, calm, conditions, laid).
  DERIVED. THE GIVEN ROWS OF THIS SEAT. 2 by the template 'for every input the law returns true; each argument reads behind the call as it read before'; 0 by the template 'total and deterministic' (their statements: YbulkbbkqTotals.lean).
  GIVEN WITH THE SEED: the statements are not yours to turn. If you find one false, say at which input.
  Laid BY PROGRAM, IN A SANDBOX (cutbox-rows.mjs): the forced cells as the released guide's own fill.sh prints them over the translation 3511191d91716c60… (all of the seat's roots in one cut). By AI agents, Wed Nov 11 2026. No macro, syntax, notation, axiom, sorry.
-/
import Derived.Test.YbulkbbkqChecked
import GoSem.Claim
import GoSem.ClaimJoined
import GoSem.ClaimMapViews
import Derived.JoinedTies
import Derived.KernelRfl
namespace Go.Proofs.Ybulkbbkq
/- THE CELL 'sum', in the pinned program and in every row, IS THE sha256 OF THE DUMP (.gsa) THAT YbulkbbkqProg.lean LOADS. Nothing in Lean hashes anything: it is a label: what it is worth is what the hold of that sum in a sandbox is worth. -/
noncomputable def Yba.pinned : Pinned := { name := "ybulkbbkq", sum := "3511191d91716c6000b25d38ed805ce85e93a1fa905700b0448e20ed7144a3e2", checked := Yba.checked }
namespace Rows
def none {H : Type} : Left H := { results := [], args := [] }

/-- 'warren.LawS2629AModel': WHATEVER THE INPUT: true; the input reads as it did. -/
def lawS2629AModelSpec : ChangeSpec := { name := "lawS2629AModel", fn := fun _ => fun
  | [d1, d2, d3, d4] => { results := [.lit (.bool true)], args := [d1, d2, d3, d4] }
  | _ => none }
def lawS2629AModelRow : OpenClaim := { program := "ybulkbbkq", sum := "3511191d91716c6000b25d38ed805ce85e93a1fa905700b0448e20ed7144a3e2", func := "example.com/warren/warren.LawS2629AModel", spec := "lawS2629AModel", unfollowed := true, recurses := true, apart := false }
def LawS2629AModelSaid : Prop := lawS2629AModelRow.holds Yba.pinned (OpenSpec.ofChange lawS2629AModelSpec)

/-- ITS FALSE NEIGHBOUR: 'it returns false'. Refute it at one input. -/
def lawS2629AModelWrong : ChangeSpec := { name := "lawS2629AModel", fn := fun _ => fun
  | [d1, d2, d3, d4] => { results := [.lit (.bool false)], args := [d1, d2, d3, d4] }
  | _ => none }
def LawS2629AModelWrongFalsely : Prop := lawS2629AModelRow.holds Yba.pinned (OpenSpec.ofChange lawS2629AModelWrong)

/-- 'warren.LawS2629AAddThenHas': WHATEVER THE INPUT: true; the input reads as it did. -/
def lawS2629AAddThenHasSpec : ChangeSpec := { name := "lawS2629AAddThenHas", fn := fun _ => fun
  | [d1, d2, d3, d4, d5] => { results := [.lit (.bool true)], args := [d1, d2, d3, d4, d5] }
  | _ => none }
def lawS2629AAddThenHasRow : OpenClaim := { program := "ybulkbbkq", sum := "3511191d91716c6000b25d38ed805ce85e93a1fa905700b0448e20ed7144a3e2", func := "example.com/warren/warren.LawS2629AAddThenHas", spec := "lawS2629AAddThenHas", unfollowed := true, recurses := true, apart := false }
def LawS2629AAddThenHasSaid : Prop := lawS2629AAddThenHasRow.holds Yba.pinned (OpenSpec.ofChange lawS2629AAddThenHasSpec)

/-- ITS FALSE NEIGHBOUR: 'it returns false'. Refute it at one input. -/
def lawS2629AAddThenHasWrong : ChangeSpec := { name := "lawS2629AAddThenHas", fn := fun _ => fun
  | [d1, d2, d3, d4, d5] => { results := [.lit (.bool false)], args := [d1, d2, d3, d4, d5] }
  | _ => none }
def LawS2629AAddThenHasWrongFalsely : Prop := lawS2629AAddThenHasRow.holds Yba.pinned (OpenSpec.ofChange lawS2629AAddThenHasWrong)

end Rows
end Go.Proofs.Ybulkbbkq
