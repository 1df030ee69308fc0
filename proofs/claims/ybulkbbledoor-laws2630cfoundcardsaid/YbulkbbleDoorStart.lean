/-
  What both rows of this seat share: one start that meets the condition on the two listed variables.
-/
import Derived.Test.YbulkbbleDoorRows
import Derived.ProofKit
import Derived.OpenShut
import Derived.ShutString
import Derived.ChangeOld
import Derived.OpenVars
import Derived.ChangeSame
import Derived.ChangeVars
import Derived.JoinedOf
import Derived.RowKit
import Derived.RowKitTokens
import Derived.LaidLaws
import Derived.LaidHandle
import Derived.Stop.Joined
import Derived.SevenTiedAt
namespace Go.Proofs.YbulkbbleDoor
open Go.ChangeShapes Go.WideShapes Go.ChangeAt Go.RowKit
open Go.ChangeMaps (open_string shut_string)
theorem own : ownKnob Ybad.prog.godebug = none := by kernel_rfl
theorem laidOut : laidOutB Ybad.prog = true := by kernel_rfl
/-! ### The texts of the two variables -/
def textNF : ByteArray := { data := #[115, 116, 111, 114, 97, 103, 101, 58, 32, 116, 97, 98, 108, 101, 32, 100, 111, 101, 115, 32, 110, 111, 116, 32, 101, 120, 105, 115, 116] }
def textNT : ByteArray := { data := #[115, 116, 111, 114, 97, 103, 101, 58, 32, 116, 104, 101, 32, 110, 97, 109, 101, 32, 105, 115, 32, 110, 111, 116, 32, 97, 32, 116, 97, 98, 108, 101, 39, 115] }
theorem two_vars {H : Type} {enc : TypeId × Value → H} {W : World} {sp : Nat → Bool} {n0 n1 : String} {gs : List (DataW H)} {q : List MemPlace} (h : DataW.TrodVars enc Ybad.prog W sp [n0, n1] gs q) : ∃ g0 g1, gs = [g0, g1] := by
  rcases gs with _ | ⟨g0, _ | ⟨g1, _ | ⟨g2, r⟩⟩⟩
  · exact h.elim
  · obtain ⟨_, _, _, _, _, _, _, _, _, _, h, _⟩ := h
    exact h.elim
  · exact ⟨g0, g1, rfl⟩
  · obtain ⟨_, _, _, _, _, _, _, _, _, _, h, _⟩ := h
    obtain ⟨_, _, _, _, _, _, _, _, _, _, h, _⟩ := h
    exact h.elim
end Go.Proofs.YbulkbbleDoor
