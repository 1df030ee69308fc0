/-
  The walk of referenced.name on a table that was found, and of LawS2630CTwoTables.
-/
import Derived.Test.YbulkbbleDoorRows
import Derived.WalkKit
import Derived.Below
namespace Go.Proofs.YbulkbbleDoor
open Go.RowKit
set_option maxRecDepth 100000 in
set_option maxHeartbeats 1000000 in
theorem name_any (r t d : Nat) (s : ByteArray) (w : World) (h0 : w.cell? ⟨r, 0, none⟩ = some (.pointer (some ⟨t, 0, none⟩))) (h1 : w.cell? ⟨t, 0, none⟩ = some (.pointer (some ⟨d, 0, none⟩))) (h2 : w.cell? ⟨d, 0, none⟩ = some (.string s)) :
    Calls Ybad.prog 5 #[.pointer (some ⟨r, 0, none⟩), .pointer none, .pointer none] w fun e w' => e = .returned (.string s) ∧ w' = w := by
  go_enter Ybad.func5, Ybad.ntmps5
  go_wp2
  go_ret
  exact ⟨rfl, rfl⟩
theorem forget {f : FuncId} {args : Array Value} {Q : Ending → World → Prop} {X : World} {p : World → Prop} (h : p X) (k : ∀ W, p W → Calls Ybad.prog f args W Q) : Calls Ybad.prog f args X Q := k X h
set_option maxRecDepth 100000 in
set_option maxHeartbeats 1000000 in
theorem two_walk (a b : ByteArray) (w : World) : Calls Ybad.prog 4 #[.string a, .string b] w fun e w' => e = .returned (.bool true) ∧ Below w.heap.size w w' := by
  go_enter Ybad.func4, Ybad.ntmps4
  go_wp2_with fail
  refine forget (p := fun W => Below w.heap.size w W ∧ W.cell? ⟨w.heap.size + 1 + 1, 0, none⟩ = some (.pointer (some ⟨w.heap.size + 1, 0, none⟩)) ∧ W.cell? ⟨w.heap.size + 1, 0, none⟩ = some (.pointer (some ⟨w.heap.size, 0, none⟩)) ∧ W.cell? ⟨w.heap.size, 0, none⟩ = some (.string a) ∧
    W.cell? ⟨w.heap.size + 1 + 1 + 1 + 1 + 1, 0, none⟩ = some (.pointer (some ⟨w.heap.size + 1 + 1 + 1 + 1, 0, none⟩)) ∧ W.cell? ⟨w.heap.size + 1 + 1 + 1 + 1, 0, none⟩ = some (.pointer (some ⟨w.heap.size + 1 + 1 + 1, 0, none⟩)) ∧ W.cell? ⟨w.heap.size + 1 + 1 + 1, 0, none⟩ = some (.string b)) ⟨?_, ?_, ?_, ?_, ?_, ?_, ?_⟩ ?_
  · repeat' (first | exact Below.refl _ _ | refine Below.alloc ?_ (by simp <;> omega) _)
  iterate 6
    · repeat (first | exact (World.cell?_alloc_at _ _ _ _ (by simp only [World.size_alloc])).trans rfl | rw [World.cell?_alloc_past _ _ _ (by simp only [World.size_alloc]; omega)])
  rintro W ⟨bel0, a0, a1, a2, b0, b1, b2⟩
  have bel : Hid (Below w.heap.size w W) := bel0
  clear bel0
  refine (name_any _ _ _ a W a0 a1 a2).mono ?_
  rintro e w' ⟨rfl, rfl⟩
  go_wp2_with fail
  refine (name_any _ _ _ b w' b0 b1 b2).mono ?_
  rintro e w'' ⟨rfl, rfl⟩
  go_wp2
  go_ret
  exact ⟨by simp, bel.out⟩
end Go.Proofs.YbulkbbleDoor
