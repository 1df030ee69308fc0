/-
  The identities of package warren laws: zzs2629aid.
-/
import Derived.Test.YbulkbbkqTime
import Derived.Deep.MidRow
import Derived.Laws.Rows
namespace Go.Proofs.Ybulkbbkq
open Go.RowKit
/-- the cells of an identity whose first byte is k -/
def idc (k : Int) : List Value := .int .u8 k :: List.replicate 63 (.int .u8 0)
theorem idc_length (k : Int) : (idc k).length = 64 := by simp [idc]
theorem idc_size (k : Int) : (idc k).toArray.size = 64 := by simp [idc]
theorem idc_one (k : Int) : ∀ v ∈ idc k, v.oneCell' = true := by
  intro v hv
  simp [idc] at hv
  rcases hv with rfl | rfl <;> rfl
theorem info27 : (Yba.prog.info? 27).map (·.size) = some 64 := by kernel_rfl
theorem run_alloc27 (w : World) : (Instr.alloc 27 true (.tuple #[])).run Yba.prog w = .ok (.pointer (some ⟨w.heap.size, 0, none⟩)) (w.alloc (.cells (idc 0).toArray 27)) := by kernel_rfl
theorem wp_alloc27 (d : Option Nat) (t : TypeId) (p : String) (f : Array Edge) (a : Act) (w : World) (K : Act → World → Prop) (Q : Exit → Act → World → Prop) :
    Oper.wp Yba.prog { dst := d, op := .alloc 27, type := t, pos := p, after := f, guard := none } a w K Q = K (a.put d (.pointer (some ⟨w.heap.size, 0, none⟩))) (w.alloc (.cells (idc 0).toArray 27)) := by
  unfold Oper.wp execOp
  simp only [Sem.run_bind, run_alloc27, Result.andThen_ok, Sem.run_pure]
  rfl
attribute [local go_sem ↓] wp_alloc27
theorem idc_get0 (k : Int) : (idc k)[0]? = some (.int .u8 k) := rfl
theorem idc_set0 (k v : Int) : (idc k).set 0 (.int .u8 v) = idc v := rfl
theorem results_cell_mid {P : Program} {fn : Func} {p : Tmp} {ty : TypeId} (h : fn.results = #[.cell p ty]) (tmps : Array Value) (w : World) (b o : Nat) (cs : List Value) (d : TypeDesc)
    (hp : tmps.getD p undef = .pointer (some ⟨b, o, none⟩)) (hc : w.rangeAt b o cs)
    (hu : P.underlying ty = some d) (hd : d.isRow = true) (hi : (P.info? ty).map (·.size) = some cs.length) :
    (results fn tmps).run P w = .ok (.agg cs.toArray) w := by
  have hp' : tmps[p]?.getD undef = .pointer (some ⟨b, o, none⟩) := by simpa using hp
  simp [results, h, hp', asAddr, run_loadVar_mid w b o ty cs d hc hu hd hi]
theorem there_of_block {w : World} {b : Nat} {C : Array Value} {t : TypeId} (hb : w.heap[b]? = some (.cells C t (0, 0))) : w.there b 0 C.size := by
  intro j hj
  rw [Nat.zero_add, cell_of_row w b j C t (0, 0) hb, frozen_of_row w b j C t hb]
  simp [hj]
theorem below_setCells {B b : Nat} (hB : B ≤ b) : ∀ (vs : List Value) (o : Nat) {A w : World}, Below B A w → Below B A (w.setCells b o vs)
  | [], _, _, _, h => h
  | v :: vs, o, _, _, h => below_setCells hB vs (o + 1) (h.setCell (p := ⟨b, o, none⟩) hB v)
set_option maxHeartbeats 400000 in
theorem id_any (x : Int) (w : World) (h0 : 0 ≤ x) (h1 : x ≤ 255) : Calls Yba.prog 5 #[.int .u8 x] w fun e w' => e = .returned (.agg (idc (x % 4)).toArray) ∧ Below w.heap.size w w' := by
  have g0 := idc_get0 0
  have g1 := idc_set0 0
  have hh1 := fun (k : Int) => heap_alloc2_new w (.cells (idc 0).toArray 27) (.cells (idc k).toArray 27)
  have hh0 := fun (k : Int) => heap_alloc2_old w (.cells (idc 0).toArray 27) (.cells (idc k).toArray 27)
  have ht : ∀ k : Int, ((w.alloc (.cells (idc 0).toArray 27)).alloc (.cells (idc k).toArray 27)).there w.heap.size 0 (idc k).toArray.size := fun k => by
    have := there_of_block (hh0 k)
    rw [idc_size] at this ⊢
    exact this
  have hi : ∀ k : Int, (Yba.prog.info? 27).map (·.size) = some (idc k).toArray.size := fun k => by rw [info27, idc_size]
  go_enter Yba.func5, Yba.ntmps5
  go_wp2_with (first | (refine wpList_load_row rfl 27 _ rfl (w.heap.size + 1) rfl 27 (idc (x % 4)).toArray (0, 0) _ (hh1 _) Yba.underlying27 rfl (by rw [info27, idc_size]) ?_) | (refine wpList_store_mid rfl 27 (.tmp 2) (.tmp 7) rfl w.heap.size 0 (idc (x % 4)).toArray rfl rfl (ht _) (hi _) (all_oneCell_toArray (idc_one _)) ?_))
  refine bodyPost_ret (v := .agg (idc (x % 4)).toArray) ?_ rfl ⟨rfl, ?_⟩
  · refine results_cell_mid rfl _ _ w.heap.size 0 (idc (x % 4)) _ rfl ?_ Yba.underlying27 rfl (by rw [info27, idc_length])
    exact World.rangeAt_setCells_same _ _ _ _ (by have := ht (x % 4); rw [idc_size] at this; rw [idc_length]; exact this)
  · exact below_setCells (Nat.le_refl _) _ _ (((Below.refl _ _).alloc (Nat.le_refl _) _).alloc (by simp) _)
end Go.Proofs.Ybulkbbkq
