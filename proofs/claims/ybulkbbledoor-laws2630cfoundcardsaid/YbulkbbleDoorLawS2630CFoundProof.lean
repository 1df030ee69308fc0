/-
  LawS2630CFound: the row out of its walk, and its tied card.
-/
import Derived.Test.YbulkbbleDoorFound
import Derived.Test.YbulkbbleDoorStart
import Derived.Test.YbulkbbleDoorTie
import Derived.Test.YbulkbbleDoorCards
namespace Go.Proofs.YbulkbbleDoor
open Go.ChangeShapes Go.WideShapes Go.ChangeAt Go.RowKit
open Go.ChangeMaps (open_string shut_string)
/-- WHAT THE WALK IS TOLD OF THE SLICE THAT CAME IN: nil, or a row of numbers. -/
def IsRow (k : IntKind) (w : World) (a : Option Addr) (len cap : Nat) (zs : List Int) : Prop :=
  (a = none ∧ len = 0 ∧ cap = 0 ∧ zs = []) ∨
  ∃ x, a = some x ∧ len ≤ cap ∧ cap ≤ maxLen ∧ zs.length = cap ∧ (∀ i, i < zs.length → w.cell? (x.add i) = some (.int k (zs.getD i 0))) ∧ ∀ n ∈ zs, (Lit.int k n).wf = true
theorem found_walk (s : ByteArray) (k : Int) (a : Option Addr) (len cap : Nat) (zs : List Int) (w : World) (h : IsRow .u32 w a len cap zs) :
    Calls Ybad.prog 3 #[.string s, .int .i64 k, .slice a len cap] w fun e w' => e = .returned (.bool true) ∧ Below w.heap.size w w' := by
  by_cases hl : 1024 < len
  · go_enter Ybad.func3, Ybad.ntmps3
    go_wp2
    go_ret
    exact ⟨rfl, Below.refl _ _⟩
  rcases h with ⟨rfl, rfl, rfl, rfl⟩ | ⟨x, rfl, hlc, _, hz, hc, _⟩
  · exact found_nil s k w
  · refine found_some s k x len cap ((zs.take len).map fun n => .int .u32 n) w (by omega) (by simp; omega) ?_ ?_
    · intro j v hv
      rw [List.getElem?_map, Option.map_eq_some_iff] at hv
      obtain ⟨n, hn, rfl⟩ := hv
      have hj : j < len := by
        have := (List.getElem?_eq_some_iff.1 hn).1
        simp at this
        omega
      rw [hc j (by omega)]
      rw [List.getElem?_take_of_lt hj] at hn
      rw [List.getD_eq_getElem?_getD, hn, Option.getD_some]
    · intro v hv
      obtain ⟨n, _, rfl⟩ := List.mem_map.1 hv
      rfl
set_option maxRecDepth 100000 in
theorem found_lifted (os : Os) (started : os.Started) (H : Type) (enc : TypeId × Value → H) :
    ReturnsInHanded {} Ybad.checked os 3 .any (fun w args => (Rows.lawS2630CFoundSpec.pre enc Ybad.prog Ybad.f3 [] false w args ∧ laidMetH Ybad.prog Rows.lawS2630CFoundRow.laid w) ∧ sizedMet enc Ybad.prog Ybad.f3 (OpenSpec.ofChange Rows.lawS2630CFoundSpec) false w args)
      (Rows.lawS2630CFoundSpec.post enc Ybad.prog Ybad.f3 false true false false) := by
  refine returnsInHanded_of_change_and (C := Ybad.checked) (X := fun w _ => laidMetH Ybad.prog Rows.lawS2630CFoundRow.laid w) (fun _ _ _ hh h => h.of_heap hh) own started (by kernel_rfl) Ybad.func3
    (ChangeSpec.witness_at (enc := enc) (C := Ybad.checked) (os := os) (X := fun w _ => laidMetH Ybad.prog Rows.lawS2630CFoundRow.laid w) false ({ World.holding Ybad.prog os ⟨#[.cells #[.string textNF] 319, .cells #[.string textNT] 319], #[], []⟩ with heap := ((World.holding Ybad.prog os ⟨#[.cells #[.string textNF] 319, .cells #[.string textNT] 319], #[], []⟩).heap.modify 0 (fun | .cells _ t frozen => .cells #[.iface 202 (.pointer (some ⟨(World.holding Ybad.prog default ⟨#[], #[], []⟩).heap.size, 0, none⟩))] t frozen | o => o)).modify 1 (fun | .cells _ t frozen => .cells #[.iface 202 (.pointer (some ⟨(World.holding Ybad.prog default ⟨#[], #[], []⟩).heap.size + 1, 0, none⟩))] t frozen | o => o) } : World)
      #[.string ⟨#[]⟩, .int .i64 0, .slice none 0 0] 8 rfl (by kernel_rfl) (by kernel_rfl) (by kernel_rfl) (by kernel_rfl) (by kernel_rfl) (show laidMetH Ybad.prog Rows.lawS2630CFoundRow.laid _ from laidMet_of_run (ps := [.cell 0 0, .cell (World.holding Ybad.prog default ⟨#[], #[], []⟩).heap.size 0, .cell 1 0, .cell ((World.holding Ybad.prog default ⟨#[], #[], []⟩).heap.size + 1) 0]) 8 (by kernel_rfl) (by kernel_rfl) (by kernel_rfl))) ?_
  intro W base args ds gs before hval0 hW _ _ _ _
  have hval : ∀ (j : Nat) t v, Ybad.f3.params[j]? = some t → args[j]? = some v → Value.okWide Ybad.prog W .any base t v := hval0
  have hW' := hW
  obtain ⟨p, q, hA0, hV0, rfl, hfz, hnd⟩ := hW
  have hA : DataW.TrodAll enc Ybad.prog W 0 (fun _ => true) true Ybad.f3.params.toList args.toList ds p := hA0
  have hV : DataW.TrodVars enc Ybad.prog W (fun _ => true) ["example.com/pellucid/pellucid/storage.ErrNotFound", "example.com/pellucid/pellucid/storage.ErrNotTable"] gs q := hV0
  rw [Ybad.params3] at hA hval
  obtain ⟨v0, vs0, d0, ds0, p0, q0, hargs, rfl, rfl, h0, r0⟩ := trodAll_cons hA
  obtain ⟨v1, vs1, d1, ds1, p1, q1, rfl, rfl, rfl, h1, r1⟩ := trodAll_cons r0
  obtain ⟨v2, vs2, d2, ds2, p2, q2, rfl, rfl, rfl, h2, r2⟩ := trodAll_cons r1
  obtain ⟨rfl, rfl, rfl⟩ := trodAll_nil r2
  obtain rfl : args = #[v0, v1, v2] := by cases args; simp_all
  obtain ⟨s, rfl, rfl, rfl, wa⟩ := open_string Ybad.underlying9 (hval 0 9 v0 rfl rfl) h0
  obtain ⟨k, rfl, rfl, rfl, wk⟩ := open_int Ybad.underlying3 (hval 1 3 v1 rfl rfl) h1
  obtain ⟨a2, len2, cap2, rfl⟩ := okWide_slice Ybad.underlying22 (hval 2 22 v2 rfl rfl)
  have k2 := h2
  have lt2 : ∀ x ∈ p2, x.block < W.heap.size := by obtain ⟨m, hm⟩ := k2; exact DataW.trod_lt m _ _ _ hm
  obtain ⟨z2, w2⟩ : ∃ zs, IsRow .u32 W a2 len2 cap2 zs := by
    obtain ⟨fuel, hf⟩ := h2
    rcases open_ints Ybad.underlying22 Ybad.underlying24 (by kernel_rfl) hf with ⟨hcs, _⟩ | ⟨x, l, c, zs, hcs, _, hl, hm, hz, _, hcell, hwz⟩
    · simp [Value.cells] at hcs
      obtain ⟨rfl, rfl, rfl⟩ := hcs
      exact ⟨[], .inl ⟨rfl, rfl, rfl, rfl⟩⟩
    · simp [Value.cells] at hcs
      obtain ⟨rfl, rfl, rfl⟩ := hcs
      exact ⟨zs, .inr ⟨_, rfl, hl, hm, by simpa using hz, hcell, hwz⟩⟩
  obtain ⟨g0, g1, rfl⟩ := two_vars hV
  clear hA0 hval0 hV0
  refine (found_walk s k a2 len2 cap2 z2 W w2).mono fun e W' ⟨he, bel⟩ => ?_
  subst he
  exact ⟨_, rfl, _, _, _, [], _, _, hW', trodAll_mk1 (shut_bool Ybad.underlying4 _), trodAll_cons_mk (shut_string Ybad.underlying9 wa) (trodAll_cons_mk (shut_int Ybad.underlying3 wk) (trodAll_cons_mk (Below.trod laidOut (by kernel_rfl) (of_decide_eq_true (by kernel_rfl)) k2 bel lt2) trodAll_mk0)), Below.trodVars laidOut bel (by kernel_rfl) hV, bel.frame _, fun h => by cases h⟩
theorem found_holds : Rows.LawS2630CFoundSaid :=
  OpenClaim.holds_of_wide 3 Ybad.f3 rfl rfl rfl rfl rfl rfl rfl ⟨rfl, rfl, rfl, rfl, rfl⟩ rfl rfl rfl rfl rfl (by kernel_rfl) Ybad.func3 (by kernel_rfl)
    (of_decide_eq_true (by kernel_rfl)) (by unfold Func.isWrapper; first | (rw [if_pos (by decide +kernel)]; kernel_rfl) | (rw [if_neg (by decide +kernel)]; exact ⟨rfl, rfl⟩))
    (fun os started H enc _ => found_lifted os started H enc)
/-- THE TIED CARD -/
theorem foundCardProved : Rows.LawS2630CFoundCardSaid :=
  Claim7.holds_tied_plain_at .later [] [.called, .called] true (true, "e69265d1325c7f50fc3b74d84e526a4242723c27ffc895329ad2c7ced0f99ebb") false
    found_holds (fun _ h => by cases h) (by kernel_rfl) (fun _ h => by cases h) lawS2630CFound_row_tie rfl ⟨rfl, rfl⟩ (by kernel_rfl) rfl
    (fun f fn hf hfn => by
      obtain rfl : f = 3 := Option.some.inj ((show Ybad.prog.funcNamed "example.com/pellucid/pellucid/storage.LawS2630CFound" = some 3 by kernel_rfl).symm.trans hf) |>.symm
      obtain rfl : fn = Ybad.f3 := (Option.some.inj (Ybad.func3.symm.trans hfn)).symm
      exact ⟨by kernel_rfl, fun j t ht => by
        rw [Ybad.params3] at ht
        have hm : t ∈ [9, 3, 22] := by simpa using Array.mem_of_getElem? ht
        have hall : ([9, 3, 22].all fun u => !Ybad.prog.wantsStandIn u) = true := by kernel_rfl
        exact (show Ybad.prog.wantsStandIn t = false by simpa using List.all_eq_true.1 hall t hm)⟩)
    (by kernel_rfl)
end Go.Proofs.YbulkbbleDoor
