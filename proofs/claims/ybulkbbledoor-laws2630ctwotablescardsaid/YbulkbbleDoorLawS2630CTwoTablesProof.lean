/-
  LawS2630CTwoTables: the row out of its walk, and its tied card.
-/
import Derived.Test.YbulkbbleDoorTwo
import Derived.Test.YbulkbbleDoorStart
import Derived.Test.YbulkbbleDoorTie
import Derived.Test.YbulkbbleDoorCards
namespace Go.Proofs.YbulkbbleDoor
open Go.ChangeShapes Go.WideShapes Go.ChangeAt Go.RowKit
open Go.ChangeMaps (open_string shut_string)
set_option maxRecDepth 100000 in
theorem two_lifted (os : Os) (started : os.Started) (H : Type) (enc : TypeId × Value → H) :
    ReturnsInHanded {} Ybad.checked os 4 .any (fun w args => (Rows.lawS2630CTwoTablesSpec.pre enc Ybad.prog Ybad.f4 [] false w args ∧ laidMetH Ybad.prog Rows.lawS2630CTwoTablesRow.laid w) ∧ sizedMet enc Ybad.prog Ybad.f4 (OpenSpec.ofChange Rows.lawS2630CTwoTablesSpec) false w args)
      (Rows.lawS2630CTwoTablesSpec.post enc Ybad.prog Ybad.f4 false true false false) := by
  refine returnsInHanded_of_change_and (C := Ybad.checked) (X := fun w _ => laidMetH Ybad.prog Rows.lawS2630CTwoTablesRow.laid w) (fun _ _ _ hh h => h.of_heap hh) own started (by kernel_rfl) Ybad.func4
    (ChangeSpec.witness_at (enc := enc) (C := Ybad.checked) (os := os) (X := fun w _ => laidMetH Ybad.prog Rows.lawS2630CTwoTablesRow.laid w) false ({ World.holding Ybad.prog os ⟨#[.cells #[.string textNF] 319, .cells #[.string textNT] 319], #[], []⟩ with heap := ((World.holding Ybad.prog os ⟨#[.cells #[.string textNF] 319, .cells #[.string textNT] 319], #[], []⟩).heap.modify 0 (fun | .cells _ t frozen => .cells #[.iface 202 (.pointer (some ⟨(World.holding Ybad.prog default ⟨#[], #[], []⟩).heap.size, 0, none⟩))] t frozen | o => o)).modify 1 (fun | .cells _ t frozen => .cells #[.iface 202 (.pointer (some ⟨(World.holding Ybad.prog default ⟨#[], #[], []⟩).heap.size + 1, 0, none⟩))] t frozen | o => o) } : World)
      #[.string ⟨#[]⟩, .string ⟨#[]⟩] 8 rfl (by kernel_rfl) (by kernel_rfl) (by kernel_rfl) (by kernel_rfl) (by kernel_rfl) (show laidMetH Ybad.prog Rows.lawS2630CTwoTablesRow.laid _ from laidMet_of_run (ps := [.cell 0 0, .cell (World.holding Ybad.prog default ⟨#[], #[], []⟩).heap.size 0, .cell 1 0, .cell ((World.holding Ybad.prog default ⟨#[], #[], []⟩).heap.size + 1) 0]) 8 (by kernel_rfl) (by kernel_rfl) (by kernel_rfl))) ?_
  intro W base args ds gs before hval0 hW _ _ _ _
  have hval : ∀ (j : Nat) t v, Ybad.f4.params[j]? = some t → args[j]? = some v → Value.okWide Ybad.prog W .any base t v := hval0
  have hW' := hW
  obtain ⟨p, q, hA0, hV0, rfl, hfz, hnd⟩ := hW
  have hA : DataW.TrodAll enc Ybad.prog W 0 (fun _ => true) true Ybad.f4.params.toList args.toList ds p := hA0
  have hV : DataW.TrodVars enc Ybad.prog W (fun _ => true) ["example.com/pellucid/pellucid/storage.ErrNotFound", "example.com/pellucid/pellucid/storage.ErrNotTable"] gs q := hV0
  rw [Ybad.params4] at hA hval
  obtain ⟨v0, vs0, d0, ds0, p0, q0, hargs, rfl, rfl, h0, r0⟩ := trodAll_cons hA
  obtain ⟨v1, vs1, d1, ds1, p1, q1, rfl, rfl, rfl, h1, r1⟩ := trodAll_cons r0
  obtain ⟨rfl, rfl, rfl⟩ := trodAll_nil r1
  obtain rfl : args = #[v0, v1] := by cases args; simp_all
  obtain ⟨a, rfl, rfl, rfl, wa⟩ := open_string Ybad.underlying9 (hval 0 9 v0 rfl rfl) h0
  obtain ⟨b, rfl, rfl, rfl, wb⟩ := open_string Ybad.underlying9 (hval 1 9 v1 rfl rfl) h1
  obtain ⟨g0, g1, rfl⟩ := two_vars hV
  clear hA0 hval0 hV0
  refine (two_walk a b W).mono fun e W' ⟨he, bel⟩ => ?_
  subst he
  exact ⟨_, rfl, _, _, _, [], _, _, hW', trodAll_mk1 (shut_bool Ybad.underlying4 _), trodAll_cons_mk (shut_string Ybad.underlying9 wa) (trodAll_cons_mk (shut_string Ybad.underlying9 wb) trodAll_mk0), Below.trodVars laidOut bel (by kernel_rfl) hV, bel.frame _, fun h => by cases h⟩
theorem two_holds : Rows.LawS2630CTwoTablesSaid :=
  OpenClaim.holds_of_wide 4 Ybad.f4 rfl rfl rfl rfl rfl rfl rfl ⟨rfl, rfl, rfl, rfl, rfl⟩ rfl rfl rfl rfl rfl (by kernel_rfl) Ybad.func4 (by kernel_rfl)
    (of_decide_eq_true (by kernel_rfl)) (by unfold Func.isWrapper; first | (rw [if_pos (by decide +kernel)]; kernel_rfl) | (rw [if_neg (by decide +kernel)]; exact ⟨rfl, rfl⟩))
    (fun os started H enc _ => two_lifted os started H enc)
/-- THE TIED CARD -/
theorem twoTablesCardProved : Rows.LawS2630CTwoTablesCardSaid :=
  Claim7.holds_tied_plain_at .later [] [.called, .called] true (true, "e69265d1325c7f50fc3b74d84e526a4242723c27ffc895329ad2c7ced0f99ebb") false
    two_holds (fun _ h => by cases h) (by kernel_rfl) (fun _ h => by cases h) lawS2630CTwoTables_row_tie rfl ⟨rfl, rfl⟩ (by kernel_rfl) rfl
    (fun f fn hf hfn => by
      obtain rfl : f = 4 := Option.some.inj ((show Ybad.prog.funcNamed "example.com/pellucid/pellucid/storage.LawS2630CTwoTables" = some 4 by kernel_rfl).symm.trans hf) |>.symm
      obtain rfl : fn = Ybad.f4 := (Option.some.inj (Ybad.func4.symm.trans hfn)).symm
      exact ⟨by kernel_rfl, fun j t ht => by
        rw [Ybad.params4] at ht
        have hm : t ∈ [9, 9] := by simpa using Array.mem_of_getElem? ht
        have hall : ([9, 9].all fun u => !Ybad.prog.wantsStandIn u) = true := by kernel_rfl
        exact (show Ybad.prog.wantsStandIn t = false by simpa using List.all_eq_true.1 hall t hm)⟩)
    (by kernel_rfl)
end Go.Proofs.YbulkbbleDoor
