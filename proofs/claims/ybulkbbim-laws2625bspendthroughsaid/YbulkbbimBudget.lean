/-
  The budget of package numaline: contracts of newBudget, share, atomic Load and Store, and when two budgets' addresses are one.
-/
import Derived.Test.YbulkbbimRows
import Derived.WalkKit
import Derived.ProofKit
import Derived.Laws.LoneSync
import Derived.LaidEqlPtr
import Derived.Lib.Builder
import Derived.WalkLawsBesides
namespace Go.Proofs.Ybulkbbim
open Go.RowKit
theorem store64 {a : Addr} {y : Int} {u : Value} {w : World} (hc : w.cell? a = some u) (hz : w.frozen? a = false) :
    (callFunc 24 #[.pointer (some a), .int .i64 y]).run Yba.prog w = .ok (.value (.tuple #[])) (w.setCell a (.int .i64 y)) :=
  run_call_store (P := Yba.prog) Yba.func24 (by kernel_rfl) (by kernel_rfl) (by kernel_rfl) (by kernel_rfl) hc hz
theorem load64 {a : Addr} {x : Int} {w : World} (hc : w.cell? a = some (.int .i64 x)) :
    (callFunc 19 #[.pointer (some a)]).run Yba.prog w = .ok (.value (.int .i64 x)) w :=
  run_call_load (P := Yba.prog) Yba.func19 (by kernel_rfl) (by kernel_rfl) (by kernel_rfl) .i64 (by kernel_rfl) hc

theorem store_any (b o : Nat) (y : Int) (u : Value) (w : World) (hc : w.cell? ⟨b, o, none⟩ = some u) (hz : w.frozen? ⟨b, o, none⟩ = false) :
    Calls Yba.prog 18 #[.pointer (some ⟨b, o, none⟩), .int .i64 y] w fun e w' => e = .returned (.tuple #[]) ∧ w' = w.setCell ⟨b, o, none⟩ (.int .i64 y) := by
  have hs := store64 (y := y) hc hz
  go_enter Yba.func18, Yba.ntmps18
  go_wp2
  go_end0
  exact ⟨rfl, rfl⟩
theorem load_any (b o : Nat) (y : Int) (w : World) (hc : w.cell? ⟨b, o, none⟩ = some (.int .i64 y)) :
    Calls Yba.prog 12 #[.pointer (some ⟨b, o, none⟩)] w fun e w' => e = .returned (.int .i64 y) ∧ w' = w := by
  have hs := load64 hc
  go_enter Yba.func12, Yba.ntmps12
  go_wp2
  go_ret
  exact ⟨rfl, rfl⟩
abbrev bud (x l : Int) (of : Option Addr) : Obj := .cells #[.int .i64 x, .int .i64 l, .pointer of, .nilIface, .chan none] 38
set_option maxHeartbeats 400000 in
theorem new_any (x : Int) (w : World) : Calls Yba.prog 10 #[.int .i64 x] w fun e w' => e = .returned (.pointer (some ⟨w.heap.size, 0, none⟩)) ∧ w' = w.alloc (bud x (wrap64 (2 * x)) none) := by
  go_enter Yba.func10, Yba.ntmps10
  go_wp2_with (go_at_call 18; refine (store_any _ _ _ (.int .i64 0) _ ?_ ?_).mono ?_)
  · go_simp
  · go_simp
  rintro e w' ⟨rfl, rfl⟩
  go_wp2
  go_ret
  exact ⟨rfl, rfl⟩
set_option maxHeartbeats 400000 in
theorem share_any (b : Addr) (x : Int) (w : World) : Calls Yba.prog 11 #[.pointer (some b), .int .i64 x] w fun e w' => e = .returned (.pointer (some ⟨w.heap.size, 0, none⟩)) ∧ w' = w.alloc (bud x (wrap64 (2 * x)) (some b)) := by
  go_enter Yba.func11, Yba.ntmps11
  go_wp2_with (go_at_call 10; refine (new_any _ _).mono ?_; rintro e w' ⟨rfl, rfl⟩)
  go_ret
  exact ⟨rfl, rfl⟩
theorem info38 : ∃ j, Yba.prog.info? 38 = some j ∧ j.size ≠ 0 := by
  have h : (Yba.prog.info? 38).map (fun i => decide (i.size = 0)) = some false := by kernel_rfl
  obtain ⟨i, hi, hz0⟩ := Option.map_eq_some_iff.1 h
  exact ⟨i, hi, by simpa using hz0⟩
theorem heap_new (w : World) (o : Obj) : (w.alloc o).heap[w.heap.size]? = some o := (MapKept.heap_alloc w o).1
theorem heap_old (w : World) (o : Obj) (k : Nat) (h : k < w.heap.size) : (w.alloc o).heap[k]? = w.heap[k]? := by
  show (w.heap.push o)[k]? = _
  rw [Array.getElem?_push, if_neg (by omega)]
theorem size_new (w : World) (o : Obj) : (w.alloc o).heap.size = w.heap.size + 1 := by
  show (w.heap.push o).size = _; simp
theorem other {w : World} {a b : Nat} {A B : Array Value} (ha : w.heap[a]? = some (.cells A 38)) (hb : w.heap[b]? = some (.cells B 38)) (hne : a ≠ b) :
    (binOp .eql 27 (.pointer (some ⟨a, 0, none⟩)) (.pointer (some ⟨b, 0, none⟩))).run Yba.prog w = .ok (.bool false) w := by
  obtain ⟨j, hj, hz⟩ := info38
  exact run_eql_ptr_other w Yba.underlying27 hj hz (by intro h; cases h; exact hne rfl) ha hb
theorem same (a : Addr) (w : World) : (binOp .eql 27 (.pointer (some a)) (.pointer (some a))).run Yba.prog w = .ok (.bool true) w := by
  obtain ⟨j, hj, hz⟩ := info38
  exact run_eql_ptr_same w a Yba.underlying27 hj
theorem nsame (a : Addr) (w : World) : (binOp .neq 27 (.pointer (some a)) (.pointer (some a))).run Yba.prog w = .ok (.bool false) w := by
  obtain ⟨j, hj, hz⟩ := info38
  exact Lib.run_neq_ptr_same w a Yba.underlying27 hj
theorem nchan (w : World) : (binOp .neq 36 (.chan none) (.chan none)).run Yba.prog w = .ok (.bool false) w := by kernel_rfl
theorem other2 (w : World) (A B : Array Value) : (binOp .eql 27 (.pointer (some ⟨w.heap.size + 1, 0, none⟩)) (.pointer (some ⟨w.heap.size, 0, none⟩))).run Yba.prog ((w.alloc (.cells A 38)).alloc (.cells B 38)) = .ok (.bool false) ((w.alloc (.cells A 38)).alloc (.cells B 38)) := by
  refine other (A := B) (B := A) ?_ ?_ (by omega)
  · rw [← size_new w (.cells A 38)]; exact heap_new _ _
  · rw [heap_old _ _ _ (by rw [size_new]; omega)]; exact heap_new _ _
theorem other3a (w : World) (A B C : Array Value) : (binOp .eql 27 (.pointer (some ⟨w.heap.size + 1 + 1, 0, none⟩)) (.pointer (some ⟨w.heap.size + 1, 0, none⟩))).run Yba.prog (((w.alloc (.cells A 38)).alloc (.cells B 38)).alloc (.cells C 38)) = .ok (.bool false) (((w.alloc (.cells A 38)).alloc (.cells B 38)).alloc (.cells C 38)) := by
  have := other2 (w.alloc (.cells A 38)) B C
  rwa [size_new] at this
theorem other3b (w : World) (A B C : Array Value) : (binOp .eql 27 (.pointer (some ⟨w.heap.size + 1 + 1, 0, none⟩)) (.pointer (some ⟨w.heap.size, 0, none⟩))).run Yba.prog (((w.alloc (.cells A 38)).alloc (.cells B 38)).alloc (.cells C 38)) = .ok (.bool false) (((w.alloc (.cells A 38)).alloc (.cells B 38)).alloc (.cells C 38)) := by
  refine other (A := C) (B := A) ?_ ?_ (by omega)
  · rw [← size_new w (.cells A 38), ← size_new _ (.cells B 38)]; exact heap_new _ _
  · rw [heap_old _ _ _ (by simp only [size_new]; omega), heap_old _ _ _ (by rw [size_new]; omega)]; exact heap_new _ _
end Go.Proofs.Ybulkbbim
