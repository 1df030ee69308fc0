/-
  NARROWER THAN 'FOR EVERY INPUT', by the rows' own cells (each row's printed sentence says how): LawS2630CFound: ifaces, laid · LawS2630CTwoTables: ifaces, laid.
  DERIVED. THE GIVEN ROWS OF THIS SEAT. 2 by the template 'for every input the law returns true; each argument reads behind the call as it read before'; 0 by the template 'total and deterministic' (their statements: YbulkbbleDoorTotals.lean).
  GIVEN WITH THE SEED: the statements are not yours to turn. If you find one false, say at which input.
  Laid BY PROGRAM, IN A SANDBOX (cutbox-rows.mjs): the forced cells as the released guide's own fill.sh prints them over the translation 0a950b69784e04a8… (all of the seat's roots in one cut). By AI agents, Wed Nov 11 2026. No macro, syntax, notation, axiom, sorry.
-/
import Derived.Test.YbulkbbleDoorChecked
import GoSem.Claim
import GoSem.ClaimJoined
import GoSem.ClaimMapViews
import Derived.JoinedTies
import Derived.KernelRfl
namespace Go.Proofs.YbulkbbleDoor
/- THE CELL 'sum', in the pinned program and in every row, IS THE sha256 OF THE DUMP (.gsa) THAT YbulkbbleDoorProg.lean LOADS. Nothing in Lean hashes anything: it is a label: what it is worth is what the hold of that sum in a sandbox is worth. -/
noncomputable def Ybad.pinned : Pinned := { name := "ybulkbbledoor", sum := "0a950b69784e04a8837b0b38b88b1692b9294fc9fe595f1fb3924a6680a59494", checked := Ybad.checked }
namespace Rows
def none {H : Type} : Left H := { results := [], args := [] }

/- WHAT THE LISTED PACKAGE-LEVEL VARIABLES READ AS WHEN THE CALL BEGINS. Each datum BY PROGRAM (the guide's laid-datum.mjs) off the statement by which the dump's own 'gosem.cut.vars' lays the variable. In a bare row this is a premise. The card (YbulkbbleDoorCards.lean) ties it to the program's text. -/
def laid_example_com_pellucid_pellucid_storage_ErrNotFound {H : Type} : DataW H := .iface "*errors.errorString" (.ptr (.agg [.lit (.string [115, 116, 111, 114, 97, 103, 101, 58, 32, 116, 97, 98, 108, 101, 32, 100, 111, 101, 115, 32, 110, 111, 116, 32, 101, 120, 105, 115, 116])]))
def laid_example_com_pellucid_pellucid_storage_ErrNotTable {H : Type} : DataW H := .iface "*errors.errorString" (.ptr (.agg [.lit (.string [115, 116, 111, 114, 97, 103, 101, 58, 32, 116, 104, 101, 32, 110, 97, 109, 101, 32, 105, 115, 32, 110, 111, 116, 32, 97, 32, 116, 97, 98, 108, 101, 39, 115])]))

/-- 'storage.LawS2630CFound': WHATEVER THE INPUT: true; the input reads as it did. -/
def lawS2630CFoundSpec : ChangeSpec := { name := "lawS2630CFound", vars := ["example.com/pellucid/pellucid/storage.ErrNotFound", "example.com/pellucid/pellucid/storage.ErrNotTable"], fn := fun _ => fun
  | [d1, d2, d3, g1, g2] => { results := [.lit (.bool true)], args := [d1, d2, d3], vars := [g1, g2] }
  | _ => none }
def lawS2630CFoundRow : OpenClaim := { program := "ybulkbbledoor", sum := "0a950b69784e04a8837b0b38b88b1692b9294fc9fe595f1fb3924a6680a59494", func := "example.com/pellucid/pellucid/storage.LawS2630CFound", spec := "lawS2630CFound", inPlace := ["sync/atomic.LoadPointer"], unfollowed := true, recurses := true, named := ["example.com/pellucid/pellucid/storage.ErrNotFound", "example.com/pellucid/pellucid/storage.ErrNotTable"], ifaces := true, plainKeys := false, apart := false, laid := [("example.com/pellucid/pellucid/storage.ErrNotFound", laid_example_com_pellucid_pellucid_storage_ErrNotFound), ("example.com/pellucid/pellucid/storage.ErrNotTable", laid_example_com_pellucid_pellucid_storage_ErrNotTable)] }
def LawS2630CFoundSaid : Prop := lawS2630CFoundRow.holds Ybad.pinned (OpenSpec.ofChange lawS2630CFoundSpec)

/-- ITS FALSE NEIGHBOUR: 'it returns false'. Refute it at one input. -/
def lawS2630CFoundWrong : ChangeSpec := { name := "lawS2630CFound", vars := ["example.com/pellucid/pellucid/storage.ErrNotFound", "example.com/pellucid/pellucid/storage.ErrNotTable"], fn := fun _ => fun
  | [d1, d2, d3, g1, g2] => { results := [.lit (.bool false)], args := [d1, d2, d3], vars := [g1, g2] }
  | _ => none }
def LawS2630CFoundWrongFalsely : Prop := lawS2630CFoundRow.holds Ybad.pinned (OpenSpec.ofChange lawS2630CFoundWrong)

/-- 'storage.LawS2630CTwoTables': WHATEVER THE INPUT: true; the input reads as it did. -/
def lawS2630CTwoTablesSpec : ChangeSpec := { name := "lawS2630CTwoTables", vars := ["example.com/pellucid/pellucid/storage.ErrNotFound", "example.com/pellucid/pellucid/storage.ErrNotTable"], fn := fun _ => fun
  | [d1, d2, g1, g2] => { results := [.lit (.bool true)], args := [d1, d2], vars := [g1, g2] }
  | _ => none }
def lawS2630CTwoTablesRow : OpenClaim := { program := "ybulkbbledoor", sum := "0a950b69784e04a8837b0b38b88b1692b9294fc9fe595f1fb3924a6680a59494", func := "example.com/pellucid/pellucid/storage.LawS2630CTwoTables", spec := "lawS2630CTwoTables", inPlace := ["sync/atomic.LoadPointer"], unfollowed := true, recurses := true, named := ["example.com/pellucid/pellucid/storage.ErrNotFound", "example.com/pellucid/pellucid/storage.ErrNotTable"], ifaces := true, plainKeys := false, apart := false, laid := [("example.com/pellucid/pellucid/storage.ErrNotFound", laid_example_com_pellucid_pellucid_storage_ErrNotFound), ("example.com/pellucid/pellucid/storage.ErrNotTable", laid_example_com_pellucid_pellucid_storage_ErrNotTable)] }
def LawS2630CTwoTablesSaid : Prop := lawS2630CTwoTablesRow.holds Ybad.pinned (OpenSpec.ofChange lawS2630CTwoTablesSpec)

/-- ITS FALSE NEIGHBOUR: 'it returns false'. Refute it at one input. -/
def lawS2630CTwoTablesWrong : ChangeSpec := { name := "lawS2630CTwoTables", vars := ["example.com/pellucid/pellucid/storage.ErrNotFound", "example.com/pellucid/pellucid/storage.ErrNotTable"], fn := fun _ => fun
  | [d1, d2, g1, g2] => { results := [.lit (.bool false)], args := [d1, d2], vars := [g1, g2] }
  | _ => none }
def LawS2630CTwoTablesWrongFalsely : Prop := lawS2630CTwoTablesRow.holds Ybad.pinned (OpenSpec.ofChange lawS2630CTwoTablesWrong)

end Rows
end Go.Proofs.YbulkbbleDoor
