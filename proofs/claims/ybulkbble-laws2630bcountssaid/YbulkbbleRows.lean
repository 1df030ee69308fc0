/-
  No cell of these rows narrows 'for every input' (looked for: loops, veiled, ifaces, maps, wideKeys, modest, calm, conditions, laid).
  DERIVED. THE GIVEN ROWS OF THIS SEAT. 2 by the template 'for every input the law returns true; each argument reads behind the call as it read before'; 0 by the template 'total and deterministic' (their statements: YbulkbbleTotals.lean).
  GIVEN WITH THE SEED: the statements are not yours to turn. If you find one false, say at which input.
  Laid BY PROGRAM, IN A SANDBOX (cutbox-rows.mjs): the forced cells as the released guide's own fill.sh prints them over the translation a606f1ad68f133f7… (all of the seat's roots in one cut). By AI agents, Wed Nov 11 2026. No macro, syntax, notation, axiom, sorry.
-/
import Derived.Test.YbulkbbleChecked
import GoSem.Claim
import GoSem.ClaimJoined
import GoSem.ClaimMapViews
import Derived.JoinedTies
import Derived.KernelRfl
namespace Go.Proofs.Ybulkbble
/- THE CELL 'sum', in the pinned program and in every row, IS THE sha256 OF THE DUMP (.gsa) THAT YbulkbbleProg.lean LOADS. Nothing in Lean hashes anything: it is a label: what it is worth is what the hold of that sum in a sandbox is worth. -/
noncomputable def Yba.pinned : Pinned := { name := "ybulkbble", sum := "a606f1ad68f133f75cd8a74878dc6674063794385ecb9db9a4d2c06f86f54acb", checked := Yba.checked }
namespace Rows
def none {H : Type} : Left H := { results := [], args := [] }

/-- 'parser.LawS2630BCounts': WHATEVER THE INPUT: true; the input reads as it did. -/
def lawS2630BCountsSpec : ChangeSpec := { name := "lawS2630BCounts", fn := fun _ => fun
  | [d1, d2] => { results := [.lit (.bool true)], args := [d1, d2] }
  | _ => none }
def lawS2630BCountsRow : OpenClaim := { program := "ybulkbble", sum := "a606f1ad68f133f75cd8a74878dc6674063794385ecb9db9a4d2c06f86f54acb", func := "example.com/pellucid/pellucid/parser.LawS2630BCounts", spec := "lawS2630BCounts", inPlace := ["internal/abi.NoEscape"], apart := false }
def LawS2630BCountsSaid : Prop := lawS2630BCountsRow.holds Yba.pinned (OpenSpec.ofChange lawS2630BCountsSpec)

/-- ITS FALSE NEIGHBOUR: 'it returns false'. Refute it at one input. -/
def lawS2630BCountsWrong : ChangeSpec := { name := "lawS2630BCounts", fn := fun _ => fun
  | [d1, d2] => { results := [.lit (.bool false)], args := [d1, d2] }
  | _ => none }
def LawS2630BCountsWrongFalsely : Prop := lawS2630BCountsRow.holds Yba.pinned (OpenSpec.ofChange lawS2630BCountsWrong)

/-- 'parser.LawS2630BCache': WHATEVER THE INPUT: true; the input reads as it did. -/
def lawS2630BCacheSpec : ChangeSpec := { name := "lawS2630BCache", fn := fun _ => fun
  | [d1, d2] => { results := [.lit (.bool true)], args := [d1, d2] }
  | _ => none }
def lawS2630BCacheRow : OpenClaim := { program := "ybulkbble", sum := "a606f1ad68f133f75cd8a74878dc6674063794385ecb9db9a4d2c06f86f54acb", func := "example.com/pellucid/pellucid/parser.LawS2630BCache", spec := "lawS2630BCache", apart := false }
def LawS2630BCacheSaid : Prop := lawS2630BCacheRow.holds Yba.pinned (OpenSpec.ofChange lawS2630BCacheSpec)

/-- ITS FALSE NEIGHBOUR: 'it returns false'. Refute it at one input. -/
def lawS2630BCacheWrong : ChangeSpec := { name := "lawS2630BCache", fn := fun _ => fun
  | [d1, d2] => { results := [.lit (.bool false)], args := [d1, d2] }
  | _ => none }
def LawS2630BCacheWrongFalsely : Prop := lawS2630BCacheRow.holds Yba.pinned (OpenSpec.ofChange lawS2630BCacheWrong)

end Rows
end Go.Proofs.Ybulkbble
