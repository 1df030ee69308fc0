/-
  The walk of LawS2630CFound.
-/
import Derived.Test.YbulkbbleDoorTwo
import Derived.Laws.CopyOwn
import Derived.OwnWalk
import Derived.WalkLawsBesides
import Derived.Lib.Builder
namespace Go.Proofs.YbulkbbleDoor
open Go.RowKit
theorem size54 : ((Ybad.prog.info? 54).map (·.size)).isSome = true := by kernel_rfl
theorem info24 : (Ybad.prog.info? 24).map (fun i => (i.zero, i.size, i.bytes)) = some (some (.int .u32 0), 1, 4) := by kernel_rfl
set_option maxRecDepth 100000 in
set_option maxHeartbeats 2000000 in
theorem found_nil (s : ByteArray) (k : Int) (w : World) : Calls Ybad.prog 3 #[.string s, .int .i64 k, .slice none 0 0] w fun e w' => e = .returned (.bool true) ∧ Below w.heap.size w w' := by
  go_enter Ybad.func3, Ybad.ntmps3
  go_wp2_with fail
  refine forget (p := fun W => Below w.heap.size w W ∧ W.cell? ⟨w.heap.size + 1 + 1, 0, none⟩ = some (.pointer (some ⟨w.heap.size + 1, 0, none⟩)) ∧ W.cell? ⟨w.heap.size + 1, 0, none⟩ = some (.pointer (some ⟨w.heap.size, 0, none⟩)) ∧ W.cell? ⟨w.heap.size, 0, none⟩ = some (.string s) ∧
    W.cell? ⟨w.heap.size + 1 + 1, 1, none⟩ = some (.int .i64 k) ∧ W.cell? ⟨w.heap.size + 1 + 1, 2, none⟩ = some (.slice none 0 0) ∧ W.cell? ⟨w.heap.size + 1 + 1, 3, none⟩ = some .nilIface) ⟨?_, ?_, ?_, ?_, ?_, ?_, ?_⟩ ?_
  · repeat' (first | exact Below.refl _ _ | refine Below.alloc ?_ (by simp <;> omega) _)
  iterate 6
    · repeat (first | exact (World.cell?_alloc_at _ _ _ _ (by simp only [World.size_alloc])).trans rfl | rw [World.cell?_alloc_past _ _ _ (by simp only [World.size_alloc]; omega)])
  rintro W ⟨bel0, a0, a1, a2, b0, b1, b2⟩
  have bel : Hid (Below w.heap.size w W) := bel0
  clear bel0
  obtain ⟨j, hj⟩ : ∃ j, Ybad.prog.info? 54 = some j := by
    have := size54
    cases h : Ybad.prog.info? 54 with
    | none => rw [h] at this; cases this
    | some j => exact ⟨j, rfl⟩
  have hn := fun (w1 : World) => Lib.run_neq_ptr_same w1 ⟨w.heap.size + 1, 0, none⟩ Ybad.underlying42 hj
  clear hj
  refine (name_any _ _ _ s W a0 a1 a2).mono ?_
  rintro e w' ⟨rfl, rfl⟩
  go_wp2
  go_ret
  exact ⟨by simp, bel.out⟩
theorem row_of_own {w1 : World} {g len : Nat} {xs : List Value} (h : w1.ownsRow g 24 1 (.slice (some ⟨g, 0, none⟩) len len) len xs) : ∃ cur : List Value, Hid (w1.heap[g]? = some (.cells cur.toArray 24 (0, 0)) ∧ cur.length = len) := by
  rcases h.2 with ⟨e, _⟩ | ⟨g', cap, cur, e, _, hb, _, _, hsz, _⟩
  · cases e
  · cases e
    exact ⟨cur.toList, hb, by simpa using hsz⟩
theorem size24 : (Ybad.prog.info? 24).map (·.size) = some 1 := by kernel_rfl
set_option maxRecDepth 100000 in
set_option maxHeartbeats 2000000 in
theorem found_some (s : ByteArray) (k : Int) (x : Addr) (len cap : Nat) (cs : List Value) (w : World) (hl : len ≤ 1024) (hcl : cs.length = len) (hcs : ∀ j v, cs[j]? = some v → w.cell? (x.add j) = some v) (h1 : ∀ v ∈ cs, v.oneCell' = true) :
    Calls Ybad.prog 3 #[.string s, .int .i64 k, .slice (some x) len cap] w fun e w' => e = .returned (.bool true) ∧ Below w.heap.size w w' := by
  obtain ⟨i0, hi, hz0, hz1, hz2⟩ := info_parts info24
  have H3 : Hid (Ybad.prog.info? 24 = some i0 ∧ i0.zero = some (.int .u32 0) ∧ i0.size = 1 ∧ i0.bytes = 4) := ⟨hi, hz0, hz1, hz2⟩
  have HS : Hid (cs.length = len ∧ (∀ j v, cs[j]? = some v → w.cell? (x.add j) = some v) ∧ (∀ v ∈ cs, v.oneCell' = true)) := ⟨hcl, hcs, h1⟩
  clear hi hz0 hz1 hz2 hcl hcs h1
  go_enter Ybad.func3, Ybad.ntmps3
  go_wp2_with (first | (at_make; refine wpList_make_full _ rfl _ _ 22 rfl w.heap.size 24 i0 (.int .u32 0) 1 Ybad.underlying22 H3.out.1 H3.out.2.1 H3.out.2.2.1 .i64 .i64 _ _ len rfl rfl rfl rfl (by rw [H3.out.2.2.2]; omega) (by unfold maxLen; omega) (Nat.le_refl _) ?_; intro w1 hown hgrow; obtain ⟨cur, hcur⟩ := row_of_own hown; have hbel : Hid (Below w.heap.size w w1) := (Below.refl _ _).grown hgrow (Nat.le_refl _) (fun j hj => by cases hj); clear hown hgrow) | (refine wpList_copy_splice rfl (.tmp 20) (.tmp 21) 22 22 rfl 24 Ybad.underlying22 size24 (some ⟨w.heap.size, 0, none⟩) (some x) len len len cap rfl rfl w.heap.size 0 cur 24 hcur.out.1 cs ?q3 ?q4 ?q5 HS.out.2.2 w.heap.size w hbel.out (Nat.le_refl _) ?_))
  case q3 => rw [HS.out.1]; exact (Nat.min_self len).symm
  case q4 =>
    intro _ j v hv
    have h := HS.out.2.1 j v hv
    exact (hbel.out.cell (p := x.add j) (World.block_lt_of_cell? w _ h)).trans h
  case q5 => rw [HS.out.1, hcur.out.2]; omega
  intro w2 _ hB2
  have hz2 := hB2.size
  have hB : Hid (Below w.heap.size w w2) := hB2
  clear hB2 hcur hbel HS H3
  go_wp2_with fail
  refine forget (p := fun W => Below w.heap.size w W ∧ W.cell? ⟨w2.heap.size + 1 + 1, 0, none⟩ = some (.pointer (some ⟨w2.heap.size + 1, 0, none⟩)) ∧ W.cell? ⟨w2.heap.size + 1, 0, none⟩ = some (.pointer (some ⟨w2.heap.size, 0, none⟩)) ∧ W.cell? ⟨w2.heap.size, 0, none⟩ = some (.string s) ∧
    W.cell? ⟨w2.heap.size + 1 + 1, 1, none⟩ = some (.int .i64 k) ∧ W.cell? ⟨w2.heap.size + 1 + 1, 2, none⟩ = some (.slice (some ⟨w.heap.size, 0, none⟩) len len) ∧ W.cell? ⟨w2.heap.size + 1 + 1, 3, none⟩ = some .nilIface) ⟨?_, ?_, ?_, ?_, ?_, ?_, ?_⟩ ?_
  · repeat' (first | exact hB.out | refine Below.alloc ?_ (by (try simp only [World.size_alloc]); omega) _)
  iterate 6
    · repeat (first | exact (World.cell?_alloc_at _ _ _ _ (by simp only [World.size_alloc])).trans rfl | rw [World.cell?_alloc_past _ _ _ (by simp only [World.size_alloc]; omega)])
  rintro W ⟨bel0, a0, a1, a2, b0, b1, b2⟩
  have bel : Hid (Below w.heap.size w W) := bel0
  clear bel0
  obtain ⟨j, hj⟩ : ∃ j, Ybad.prog.info? 54 = some j := by
    have := size54
    cases h : Ybad.prog.info? 54 with
    | none => rw [h] at this; cases this
    | some j => exact ⟨j, rfl⟩
  have hn := fun (w1 : World) => Lib.run_neq_ptr_same w1 ⟨w2.heap.size + 1, 0, none⟩ Ybad.underlying42 hj
  clear hj
  refine (name_any _ _ _ s W a0 a1 a2).mono ?_
  rintro e w' ⟨rfl, rfl⟩
  go_wp2
  go_ret
  exact ⟨by simp, bel.out⟩
end Go.Proofs.YbulkbbleDoor
