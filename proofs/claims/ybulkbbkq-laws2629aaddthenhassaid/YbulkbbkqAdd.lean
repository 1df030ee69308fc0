/-
  (*recentPeers).add on a full slice of peers: the reslice, the append that grows, the store: each region in whatever order.
-/
import Derived.Test.YbulkbbkqModel
import Derived.BigRegion
import Derived.Deep.RegionHeld3
import Derived.Deep.RegionLawGrows
namespace Go.Proofs.Ybulkbbkq
open Go.RowKit
theorem info32 : (Yba.prog.info? 32).map (·.size) = some 3 := by kernel_rfl
/-- the cells of n peers in a row -/
def rows (f : Nat → UInt8 × Int) : Nat → List Value
  | 0 => []
  | n + 1 => rows f n ++ pcs (f n)
theorem rows_length (f : Nat → UInt8 × Int) : ∀ n, (rows f n).length = n * 67
  | 0 => rfl
  | n + 1 => by rw [rows, List.length_append, rows_length f n, pcs_length]; omega
theorem rows_cells {w : World} {g o : Nat} (f : Nat → UInt8 × Int) : ∀ n, (∀ j, j < n → w.rangeAt g (o + j * 67) (pcs (f j))) → w.rangeAt g o (rows f n)
  | 0, _ => fun j v hv => by simp [rows] at hv
  | n + 1, h => fun j v hv => by
    rw [rows] at hv
    by_cases hj : j < (rows f n).length
    · rw [List.getElem?_append_left hj] at hv
      exact rows_cells f n (fun i hi => h i (by omega)) j v hv
    · rw [List.getElem?_append_right (by omega), rows_length] at hv
      rw [rows_length] at hj
      have := h n (by omega) _ v hv
      rw [show o + n * 67 + (j - n * 67) = o + j by omega] at this
      exact this
theorem cells_rows {w : World} {g : Nat} (f : Nat → UInt8 × Int) : ∀ n, w.rangeAt g 0 (rows f n) → ∀ j, j < n → w.rangeAt g (j * 67) (pcs (f j))
  | 0, _, j, hj => absurd hj (by omega)
  | n + 1, h, j, hj => fun i v hv => by
    by_cases e : j = n
    · subst e
      have := h (j * 67 + i) v (by rw [rows, List.getElem?_append_right (by rw [rows_length]; omega), rows_length, Nat.add_sub_cancel_left]; exact hv)
      rw [Nat.zero_add] at this; exact this
    · refine cells_rows f n (fun q u hu => h q u ?_) j (by omega) i v hv
      rw [rows, List.getElem?_append_left (List.getElem?_eq_some_iff.1 hu).1]; exact hu
theorem grownBy_below {w w' : World} (h : w.grownBy w' none) : Below w.heap.size w w' := (Below.refl _ w).grown h (Nat.le_refl _) (fun _ e => by cases e)
theorem step_buildSlice {ops : Array Oper} {o : Oper} {a : Act} {w : World} {K : Act → World → Prop} {Q : Exit → Act → World → Prop} {E : Prop} (hg : o.guard = none) (x : Nat) (hop : o.op = .buildSlice 25 1 #[(0, .tmp x)]) (c : Array Value) (hx : a.eval (.tmp x) = .agg c) (hc : c.size = 67)
    (hK : K (a.put o.dst (.slice (some ⟨w.heap.size, 0, none⟩) 1 1)) (w.alloc (.cells c 35))) : if Region.wanted o (yielded ops a.tmps) = true then Oper.wp Yba.prog o a w K Q else E := by
  have hw : Region.wanted o (yielded ops a.tmps) = true := by simp [Region.wanted, hg]
  rw [if_pos hw]
  obtain ⟨i0, hi, hz0, hz1, hz2⟩ := info_parts info35'
  refine wp_buildSlice 25 35 1 #[(0, .tmp x)] hop c i0 (.agg z35) Yba.underlying25 hi hz0 (by rw [hz1]; omega) (by rw [hz1]; omega) ?_ hK
  have e : (#[(0, Operand.tmp x)].map fun (q : Nat × Operand) => (q.1, a.eval q.2)).toList = [(0, Value.agg c)] := by
    simp [hx]
  rw [hz1]
  exact (congrArg _ e).trans (fill25 (.agg c) hc)
theorem step_load {ops : Array Oper} {o : Oper} {a : Act} {w : World} {K : Act → World → Prop} {Q : Exit → Act → World → Prop} {E : Prop} (hg : o.guard = none) (x : Nat) (hop : o.op = .load 25 (.tmp x)) (b : Nat) (hx : a.eval (.tmp x) = .pointer (some ⟨b, 0, none⟩)) (v : Value) (hc : w.cell? ⟨b, 0, none⟩ = some v)
    (hK : K (a.put o.dst v) w) : if Region.wanted o (yielded ops a.tmps) = true then Oper.wp Yba.prog o a w K Q else E := by
  have hw : Region.wanted o (yielded ops a.tmps) = true := by simp [Region.wanted, hg]
  rw [if_pos hw]
  unfold Oper.wp execOp
  simp only [hop, hx]
  go_simp
  exact hK
theorem range_setCell {w : World} {b o : Nat} {cs : List Value} (h : w.rangeAt b o cs) {p : Addr} (hne : p.block ≠ b) (v : Value) : (w.setCell p v).rangeAt b o cs := fun j u hu => (World.cell?_setCell_far w p ⟨b, o + j, none⟩ v hne).trans (h j u hu)
theorem rows_congr (f g : Nat → UInt8 × Int) : ∀ n, (∀ j, j < n → f j = g j) → rows f n = rows g n
  | 0, _ => rfl
  | n + 1, h => by rw [rows, rows, h n (by omega), rows_congr f g n (fun j hj => h j (by omega))]
/-- behind add: the slice in rb holds some peers, the last of them the new one -/
def AddPost (rb : Nat) (k : UInt8) (t : Int) (w w' : World) : Prop :=
  ∃ g cap m, ∃ f : Nat → UInt8 × Int, w'.cell? ⟨rb, 0, none⟩ = some (.slice (some ⟨g, 0, none⟩) (m + 1) cap) ∧ m ≤ 1024 ∧ g < w'.heap.size ∧ (∀ j, j < m + 1 → w'.rangeAt g (j * 67) (pcs (f j))) ∧ f m = (k, t) ∧ Below rb w w'
theorem add_fin {rb n1 g' cap' : Nat} {k : UInt8} {t : Int} {f : Nat → UInt8 × Int} {w V U V2 : World} {s0 : Value} (hrb : rb < w.heap.size) (hwV : Below rb w V) (hBU : Below V.heap.size V U) (hB2 : Below U.heap.size U V2)
    (hown : V2.ownsRow U.heap.size 35 67 (.slice (some ⟨g', 0, none⟩) (n1 + 1) cap') (n1 + 1) (rows f n1 ++ pcs (k, t))) (c2 : V2.cell? ⟨rb, 0, none⟩ = some s0) (hn1 : n1 ≤ 1024) :
    AddPost rb k t w (V2.setCell ⟨rb, 0, none⟩ (.slice (some ⟨g', 0, none⟩) (n1 + 1) cap')) := by
  have s1 := hwV.size
  have s2 := hBU.size
  have s3 := hB2.size
  rcases hown.2 with ⟨e, _⟩ | ⟨g, cap, cur, e, hge, hb, _, _, _, htake⟩
  · cases e
  · cases e
    have hr : V2.rangeAt g' 0 (rows f n1 ++ pcs (k, t)) := fun j v hv => by
      rw [Nat.zero_add, cell_of_row V2 g' j cur 35 (0, 0) hb]
      rw [← htake] at hv
      have := (List.getElem?_eq_some_iff.1 hv).1
      rw [List.getElem?_take_of_lt (by rw [List.length_take] at this; omega)] at hv
      simpa using hv
    have hne : rb ≠ g' := by omega
    have hr2 := range_setCell hr (p := ⟨rb, 0, none⟩) hne (.slice (some ⟨g', 0, none⟩) (n1 + 1) cap')
    have hf : rows (fun j => if j = n1 then (k, t) else f j) (n1 + 1) = rows f n1 ++ pcs (k, t) := by
      rw [rows, if_pos rfl, rows_congr _ f n1 (fun j hj => if_neg (by omega))]
    refine ⟨g', cap', n1, fun j => if j = n1 then (k, t) else f j, World.cell?_setCell_same' _ _ _ (by rw [c2]; rfl), hn1, ?_, ?_, if_pos rfl, ?_⟩
    · have := (Array.getElem?_eq_some_iff.1 hb).1
      simpa [World.setCell] using this
    · exact cells_rows _ (n1 + 1) (by rw [hf]; exact hr2)
    · exact (hwV.trans ((hBU.mono (by omega)).trans (hB2.mono (by omega)))).setCell (p := ⟨rb, 0, none⟩) (Nat.le_refl _) _
set_option linter.unusedSimpArgs false
set_option maxRecDepth 100000 in
set_option maxHeartbeats 1000000 in
theorem add_cut (rb g n most : Nat) (f0 : Nat → UInt8 × Int) (k : UInt8) (t : Int) (w : World) (hr : w.cell? ⟨rb, 0, none⟩ = some (.slice (some ⟨g, 0, none⟩) n n)) (hf : w.frozen? ⟨rb, 0, none⟩ = false) (hgr : g ≠ rb) (hc : ∀ j, j < n → w.rangeAt g (j * 67) (pcs (f0 j))) (hn : n ≤ 1024) (hm0 : 1 ≤ most) (hm : most ≤ 8) (hge : most ≤ n) :
    Calls Yba.prog 8 #[.pointer (some ⟨rb, 0, none⟩), .agg (idc (k.toNat : Int)).toArray, .agg (tmc t).toArray, .int .i64 most] w fun e w' => e = .returned (.tuple #[]) ∧ AddPost rb k t w w' := by
  have hlt := block_lt_of_cell hr
  obtain ⟨i0, hi, hz0, hz1, hz2⟩ := info_parts info35'
  have H5 : Hid (Yba.prog.info? 35 = some i0 ∧ i0.zero = some (.agg z35) ∧ i0.size = 67 ∧ i0.bytes = 88) := ⟨hi, hz0, hz1, hz2⟩
  clear hi hz0 hz1 hz2
  have u0 : (0 : Int) ≤ (n : Int) - most + 1 := by omega
  have u1 : (n : Int) - most + 1 ≤ n := by omega
  have HC : Hid (∀ j, j < n → w.rangeAt g (j * 67) (pcs (f0 j))) := hc
  clear hc
  go_enter Yba.func8, Yba.ntmps8
  go_wp2
  go_region
  obtain ⟨ao, hao⟩ : ∃ ao : Option Addr, ao = (if n = n - most + 1 then some ⟨g, 0, none⟩ else some ⟨g, (n - most + 1) * 67, none⟩) := ⟨_, rfl⟩
  obtain ⟨n1, hn1⟩ : ∃ n1 : Nat, n1 = n - (n - most + 1) := ⟨_, rfl⟩
  rw [← hao, ← hn1]
  obtain ⟨V, hV⟩ : ∃ V, (((w.setCell ⟨rb, 0, none⟩ (.slice ao n1 n1)).alloc (.cells (idc (k.toNat : Int)).toArray 27)).alloc (.cells (tmc t).toArray 32)).drew = V := ⟨_, rfl⟩
  rw [hV]
  obtain ⟨f, hfd⟩ : ∃ f : Nat → UInt8 × Int, f = fun j => f0 (n - most + 1 + j) := ⟨_, rfl⟩
  have hw' : (w.setCell ⟨rb, 0, none⟩ (.slice ao n1 n1)).heap.size = w.heap.size := by simp [World.setCell]
  have hc' : (w.setCell ⟨rb, 0, none⟩ (.slice ao n1 n1)).cell? ⟨rb, 0, none⟩ = some (.slice ao n1 n1) := World.cell?_setCell_same' _ _ _ (by rw [hr]; rfl)
  obtain ⟨w', hwd⟩ : ∃ w', w.setCell ⟨rb, 0, none⟩ (.slice ao n1 n1) = w' := ⟨_, rfl⟩
  rw [hwd] at hw' hc' hV
  have hBw : Below w'.heap.size w' V := by rw [← hV]; exact (((Below.refl _ w').alloc (Nat.le_refl _) _).alloc (by simp) _).drew
  have hB0 : Below rb w w' := by rw [← hwd]; exact (Below.refl _ w).setCell (p := ⟨rb, 0, none⟩) (Nat.le_refl _) _
  have HV : Hid (Below rb w V) := hB0.trans (hBw.mono (by omega))
  have rk : V.rangeAt w.heap.size 0 (idc (k.toNat : Int)) := rangeAt_block (t := 27) (fr := (0, 0)) (by rw [← hV, ← hw']; exact heap_alloc2_old w' _ _)
  have rt : V.rangeAt (w.heap.size + 1) 0 (tmc t) := rangeAt_block (t := 32) (fr := (0, 0)) (by rw [← hV, ← hw']; exact heap_alloc2_new w' _ _)
  have cR : V.cell? ⟨rb, 0, none⟩ = some (.slice ao n1 n1) := cell_later hBw hc'
  have fR : V.frozen? ⟨rb, 0, none⟩ = false := by
    rw [hBw.frozen (p := ⟨rb, 0, none⟩) (by show rb < _; omega), ← hwd, World.frozen?_setCell]; exact hf
  have hcw : ∀ j, j < n → w'.rangeAt g (j * 67) (pcs (f0 j)) := fun j hj => by rw [← hwd]; exact range_setCell (HC.out j hj) (p := ⟨rb, 0, none⟩) (Ne.symm hgr) _
  have HO : Hid ((ao = none → n1 = 0 ∧ n1 = 0) ∧ n1 ≤ 1024 ∧ (∀ b, ao = some b → ∀ j u, (rows f n1)[j]? = some u → V.cell? (b.add j) = some u)) := by
    refine ⟨fun e => ?_, by omega, fun b hb j u hu => cell_later hBw ?_⟩
    · rw [hao] at e; split at e <;> cases e
    · by_cases e0 : n = n - most + 1
      · have : n1 = 0 := by omega
        subst this
        simp [rows] at hu
      · rw [if_neg e0] at hao
        rw [hao] at hb
        cases hb
        rw [Addr.add_mid]
        have hlast : n - most + 1 + n1 = n := by omega
        exact rows_cells f n1 (fun i hi => by
          have := hcw (n - most + 1 + i) (by omega)
          rw [hfd, show (n - most + 1) * 67 + i * 67 = (n - most + 1 + i) * 67 by omega]; exact this) j u hu
  clear hcw hBw hB0 hc' hw' hwd
  have cRd : V.drew.cell? ⟨rb, 0, none⟩ = some (.slice ao n1 n1) := cR
  clear hao hn1 hV hr hf hge u0 u1 hfd
  have l1 := idc_length
  have l2 := tmc_length
  have l3 := zero35
  have l4 := z35_size
  have l5 := fold64
  have l6 := fold67
  go_wp2
  refine wp_region_held_drew (S := fun w' => w'.rangeAt w.heap.size 0 (idc (k.toNat : Int)) ∧ w'.rangeAt (w.heap.size + 1) 0 (tmc t)) (by kernel_rfl) ⟨(World.rangeAt_drew _ _ _ _).2 rk, (World.rangeAt_drew _ _ _ _).2 rt⟩ (fun hHeld => ?_)
  refine wpAnyH_take (i := 0) (oi := { dst := some 27, op := .move (.tmp 0), type := 46, pos := _, after := _, guard := none }) (v := .pointer (some ⟨rb, 0, none⟩)) rfl (by kernel_rfl) (by kernel_rfl) (by kernel_rfl) (fun _ _ _ h => h) (Or.inl ⟨by rfl, fun w' hS' => ?_⟩) hHeld ?_
  · go_simp
  simp only [Act.put, List.setIfInBounds_toArray, List.set_cons_zero, List.set_cons_succ]
  refine wpAnyH_take (i := 1) (oi := { dst := some 28, op := .move (.tmp 0), type := 46, pos := _, after := _, guard := none }) (v := .pointer (some ⟨rb, 0, none⟩)) rfl (by kernel_rfl) (by kernel_rfl) (by kernel_rfl) (fun _ _ _ h => h) (Or.inl ⟨by rfl, fun w' hS' => ?_⟩) hHeld ?_
  · go_simp
  simp only [Act.put, List.setIfInBounds_toArray, List.set_cons_zero, List.set_cons_succ]
  refine wpAnyH_take (i := 2) (oi := { dst := some 29, op := .nilCheck (.tmp 28), type := 0, pos := _, after := _, guard := none }) (v := .pointer (some ⟨rb, 0, none⟩)) rfl (by kernel_rfl) (by kernel_rfl) (by kernel_rfl) (fun _ _ _ h => h) (Or.inl ⟨by rfl, fun w' hS' => ?_⟩) hHeld ?_
  · go_simp
  simp only [Act.put, List.setIfInBounds_toArray, List.set_cons_zero, List.set_cons_succ]
  refine wpAnyH_take (i := 4) (oi := { dst := some 31, op := .load 27 (.tmp 5), type := 27, pos := _, after := _, guard := none }) (v := .agg (idc (k.toNat : Int)).toArray) rfl (by kernel_rfl) (by kernel_rfl) (by kernel_rfl) (fun _ _ _ h => h) (yieldsIf_load_mid (by rfl) 27 (.tmp 5) rfl w.heap.size 0 rfl (idc (k.toNat : Int)) _ (fun _ h => h.1) Yba.underlying27 rfl (by rw [info27, idc_length])) hHeld ?_
  simp only [Act.put, List.setIfInBounds_toArray, List.set_cons_zero, List.set_cons_succ]
  refine wpAnyH_take (i := 5) (oi := { dst := some 32, op := .load 32 (.tmp 6), type := 32, pos := _, after := _, guard := none }) (v := .agg (tmc t).toArray) rfl (by kernel_rfl) (by kernel_rfl) (by kernel_rfl) (fun _ _ _ h => h) (yieldsIf_load_mid (by rfl) 32 (.tmp 6) rfl (w.heap.size + 1) 0 rfl (tmc t) _ (fun _ h => h.2) Yba.underlying32 rfl (by rw [info32, tmc_length])) hHeld ?_
  simp only [Act.put, List.setIfInBounds_toArray, List.set_cons_zero, List.set_cons_succ]
  refine wpAnyH_take (i := 6) (oi := { dst := some 33, op := .build 35 #[(0, .tmp 31), (1, .tmp 32)], type := 35, pos := _, after := _, guard := none }) (v := .agg (idc (k.toNat : Int) ++ tmc t).toArray) rfl (by kernel_rfl) (by kernel_rfl) (by kernel_rfl) (fun _ _ _ h => h) (Or.inl ⟨by rfl, fun w' hS' => ?_⟩) hHeld ?_
  · go_simp
  simp only [Act.put, List.setIfInBounds_toArray, List.set_cons_zero, List.set_cons_succ]
  refine wpAnyH_ready (rs := [3, 7]) (by kernel_rfl) (by simp) (AllReadyH.cons (o := { dst := some 30, op := .load 25 (.tmp 29), type := 25, pos := _, after := _, guard := none }) rfl (fun K hK => ?_) (AllReadyH.cons (o := { dst := some 34, op := .buildSlice 25 1 #[(0, .tmp 33)], type := 25, pos := _, after := _, guard := none }) rfl (fun K hK => ?_) AllReadyH.nil))
  · refine step_load (by rfl) 29 (by rfl) rb (by rfl) (.slice ao n1 n1) cRd ?_
    refine hK.out _ _ hHeld (fun hH3 => ?_)
    clear hK K
    simp only [Act.put, List.setIfInBounds_toArray, List.set_cons_zero, List.set_cons_succ]
    refine wpAnyH_ready (rs := [7]) (by kernel_rfl) (by simp) (AllReadyH.cons (o := { dst := some 34, op := .buildSlice 25 1 #[(0, .tmp 33)], type := 25, pos := _, after := _, guard := none }) rfl (fun K hK => ?_) AllReadyH.nil)
    refine step_buildSlice (by rfl) 33 (by rfl) (idc (k.toNat : Int) ++ tmc t).toArray (by rfl) (pcs_size (k, t)) ?_
    refine hK.out _ _ ⟨World.rangeAt_alloc ((World.rangeAt_drew _ _ _ _).2 rk) _, World.rangeAt_alloc ((World.rangeAt_drew _ _ _ _).2 rt) _⟩ (fun _ => ?_)
    clear hK K
    simp only [Act.put, List.setIfInBounds_toArray, List.set_cons_zero, List.set_cons_succ]
    obtain ⟨U, hU⟩ : ∃ U, V.drew.alloc (.cells (idc (k.toNat : Int) ++ tmc t).toArray 35) = U := ⟨_, rfl⟩
    have hBU : Below V.heap.size V U := by rw [← hU]; exact ((Below.refl _ V).drew).alloc (Nat.le_refl _) _
    have hUn : U.heap[V.heap.size]? = some (.cells (idc (k.toNat : Int) ++ tmc t).toArray 35) := by rw [← hU]; exact heap_alloc_new V.drew _
    rw [show V.drew.alloc (.cells (idc (k.toNat : Int) ++ tmc t).toArray 35) = U from hU]
    clear hU
    have rkU : U.rangeAt w.heap.size 0 (idc (k.toNat : Int)) := fun j v hv => cell_later hBU (rk j v hv)
    have rtU : U.rangeAt (w.heap.size + 1) 0 (tmc t) := fun j v hv => cell_later hBU (rt j v hv)
    have cU := cell_later hBU cR
    have fU : U.frozen? ⟨rb, 0, none⟩ = false := (hBU.frozen (p := ⟨rb, 0, none⟩) (block_lt_of_cell cR)).trans fR
    refine wpAnyH_ready (rs := [8]) (by kernel_rfl) (by simp) (AllReadyH.cons (o := { dst := some 35, op := .call { callee := .builtin .append, args := #[.tmp 30, .tmp 34], argTypes := #[25, 25] }, type := 25, pos := _, after := _, guard := none }) rfl (fun K hK => ?_) AllReadyH.nil)
    refine step_append_grows (by rfl) (.tmp 30) (.tmp 34) 25 (by rfl) 35 i0 (.agg z35) 67 88 Yba.underlying25 H5.out.1 H5.out.2.1 H5.out.2.2.1 H5.out.2.2.2 z35_size (by omega) ao n1 n1 (rows f n1) (by rfl) HO.out.1 (rows_length f n1) (fun b hb j u hu => cell_later hBU (HO.out.2.2 b hb j u hu)) ⟨V.heap.size, 0, none⟩ 1 1 (pcs (k, t)) (by rfl) (by rw [pcs_length]) (World.news_of_block (cs := (pcs (k, t)).toArray) (t := 35) (fr := (0, 0)) hUn) (pcs_one _) (by omega) (by have := HO.out.2.1; unfold maxLen; omega) (by have := HO.out.2.1; omega) ?_
    intro v' V2 hown hgrow
    have hB2 : Below U.heap.size U V2 := grownBy_below hgrow
    obtain ⟨g', cap', hv⟩ := ownsRow_succ hown
    rw [hv] at hown ⊢
    have c2 := cell_later hB2 cU
    have f2 : V2.frozen? ⟨rb, 0, none⟩ = false := (hB2.frozen (p := ⟨rb, 0, none⟩) (block_lt_of_cell cU)).trans fU
    refine hK.out _ _ ⟨fun j v hv => cell_later hB2 (rkU j v hv), fun j v hv => cell_later hB2 (rtU j v hv)⟩ (fun hH8 => ?_)
    clear hK K
    simp only [Act.put, List.setIfInBounds_toArray, List.set_cons_zero, List.set_cons_succ]
    refine wpAnyH_take (i := 9) (oi := { dst := some 36, op := .nilCheck (.tmp 27), type := 0, pos := _, after := _, guard := none }) (v := .pointer (some ⟨rb, 0, none⟩)) rfl (by kernel_rfl) (by kernel_rfl) (by kernel_rfl) (fun _ _ _ h => h) (Or.inl ⟨by rfl, fun w' hS' => ?_⟩) hH8 ?_
    · go_simp
    simp only [Act.put, List.setIfInBounds_toArray, List.set_cons_zero, List.set_cons_succ]
    refine wpAnyH_ready (rs := [10]) (by kernel_rfl) (by simp) (AllReadyH.cons (o := { dst := none, op := .store 25 (.tmp 36) (.tmp 35), type := 0, pos := _, after := _, guard := none }) rfl (fun K hK => ?_) AllReadyH.nil)
    go_simp
    refine hK.out _ _ ⟨range_setCell hH8.1 (p := ⟨rb, 0, none⟩) (by show rb ≠ _; omega) _, range_setCell hH8.2 (p := ⟨rb, 0, none⟩) (by show rb ≠ _; omega) _⟩ (fun _ => ?_)
    clear hK K
    refine wpAnyH_done (by kernel_rfl) ?_ _
    have HF : Hid (AddPost rb k t w (V2.setCell ⟨rb, 0, none⟩ (.slice (some ⟨g', 0, none⟩) (n1 + 1) cap'))) := add_fin hlt HV.out hBU hB2 hown c2 HO.out.2.1
    clear hown hgrow hB2 hBU hUn rkU rtU cU fU c2 f2 rk rt cR fR hH8 HO cRd HV
    go_wp2
    go_end0
    exact ⟨rfl, HF.out⟩
  · refine step_buildSlice (by rfl) 33 (by rfl) (idc (k.toNat : Int) ++ tmc t).toArray (by rfl) (pcs_size (k, t)) ?_
    refine hK.out _ _ ⟨World.rangeAt_alloc ((World.rangeAt_drew _ _ _ _).2 rk) _, World.rangeAt_alloc ((World.rangeAt_drew _ _ _ _).2 rt) _⟩ (fun _ => ?_)
    clear hK K
    simp only [Act.put, List.setIfInBounds_toArray, List.set_cons_zero, List.set_cons_succ]
    obtain ⟨U, hU⟩ : ∃ U, V.drew.alloc (.cells (idc (k.toNat : Int) ++ tmc t).toArray 35) = U := ⟨_, rfl⟩
    have hBU : Below V.heap.size V U := by rw [← hU]; exact ((Below.refl _ V).drew).alloc (Nat.le_refl _) _
    have hUn : U.heap[V.heap.size]? = some (.cells (idc (k.toNat : Int) ++ tmc t).toArray 35) := by rw [← hU]; exact heap_alloc_new V.drew _
    rw [show V.drew.alloc (.cells (idc (k.toNat : Int) ++ tmc t).toArray 35) = U from hU]
    clear hU
    have rkU : U.rangeAt w.heap.size 0 (idc (k.toNat : Int)) := fun j v hv => cell_later hBU (rk j v hv)
    have rtU : U.rangeAt (w.heap.size + 1) 0 (tmc t) := fun j v hv => cell_later hBU (rt j v hv)
    have cU := cell_later hBU cR
    have fU : U.frozen? ⟨rb, 0, none⟩ = false := (hBU.frozen (p := ⟨rb, 0, none⟩) (block_lt_of_cell cR)).trans fR
    refine wpAnyH_ready (rs := [3]) (by kernel_rfl) (by simp) (AllReadyH.cons (o := { dst := some 30, op := .load 25 (.tmp 29), type := 25, pos := _, after := _, guard := none }) rfl (fun K hK => ?_) AllReadyH.nil)
    refine step_load (by rfl) 29 (by rfl) rb (by rfl) (.slice ao n1 n1) cU ?_
    refine hK.out _ _ ⟨rkU, rtU⟩ (fun _ => ?_)
    clear hK K
    simp only [Act.put, List.setIfInBounds_toArray, List.set_cons_zero, List.set_cons_succ]
    refine wpAnyH_ready (rs := [8]) (by kernel_rfl) (by simp) (AllReadyH.cons (o := { dst := some 35, op := .call { callee := .builtin .append, args := #[.tmp 30, .tmp 34], argTypes := #[25, 25] }, type := 25, pos := _, after := _, guard := none }) rfl (fun K hK => ?_) AllReadyH.nil)
    refine step_append_grows (by rfl) (.tmp 30) (.tmp 34) 25 (by rfl) 35 i0 (.agg z35) 67 88 Yba.underlying25 H5.out.1 H5.out.2.1 H5.out.2.2.1 H5.out.2.2.2 z35_size (by omega) ao n1 n1 (rows f n1) (by rfl) HO.out.1 (rows_length f n1) (fun b hb j u hu => cell_later hBU (HO.out.2.2 b hb j u hu)) ⟨V.heap.size, 0, none⟩ 1 1 (pcs (k, t)) (by rfl) (by rw [pcs_length]) (World.news_of_block (cs := (pcs (k, t)).toArray) (t := 35) (fr := (0, 0)) hUn) (pcs_one _) (by omega) (by have := HO.out.2.1; unfold maxLen; omega) (by have := HO.out.2.1; omega) ?_
    intro v' V2 hown hgrow
    have hB2 : Below U.heap.size U V2 := grownBy_below hgrow
    obtain ⟨g', cap', hv⟩ := ownsRow_succ hown
    rw [hv] at hown ⊢
    have c2 := cell_later hB2 cU
    have f2 : V2.frozen? ⟨rb, 0, none⟩ = false := (hB2.frozen (p := ⟨rb, 0, none⟩) (block_lt_of_cell cU)).trans fU
    refine hK.out _ _ ⟨fun j v hv => cell_later hB2 (rkU j v hv), fun j v hv => cell_later hB2 (rtU j v hv)⟩ (fun hH8 => ?_)
    clear hK K
    simp only [Act.put, List.setIfInBounds_toArray, List.set_cons_zero, List.set_cons_succ]
    refine wpAnyH_take (i := 9) (oi := { dst := some 36, op := .nilCheck (.tmp 27), type := 0, pos := _, after := _, guard := none }) (v := .pointer (some ⟨rb, 0, none⟩)) rfl (by kernel_rfl) (by kernel_rfl) (by kernel_rfl) (fun _ _ _ h => h) (Or.inl ⟨by rfl, fun w' hS' => ?_⟩) hH8 ?_
    · go_simp
    simp only [Act.put, List.setIfInBounds_toArray, List.set_cons_zero, List.set_cons_succ]
    refine wpAnyH_ready (rs := [10]) (by kernel_rfl) (by simp) (AllReadyH.cons (o := { dst := none, op := .store 25 (.tmp 36) (.tmp 35), type := 0, pos := _, after := _, guard := none }) rfl (fun K hK => ?_) AllReadyH.nil)
    go_simp
    refine hK.out _ _ ⟨range_setCell hH8.1 (p := ⟨rb, 0, none⟩) (by show rb ≠ _; omega) _, range_setCell hH8.2 (p := ⟨rb, 0, none⟩) (by show rb ≠ _; omega) _⟩ (fun _ => ?_)
    clear hK K
    refine wpAnyH_done (by kernel_rfl) ?_ _
    have HF : Hid (AddPost rb k t w (V2.setCell ⟨rb, 0, none⟩ (.slice (some ⟨g', 0, none⟩) (n1 + 1) cap'))) := add_fin hlt HV.out hBU hB2 hown c2 HO.out.2.1
    clear hown hgrow hB2 hBU hUn rkU rtU cU fU c2 f2 rk rt cR fR hH8 HO cRd HV
    go_wp2
    go_end0
    exact ⟨rfl, HF.out⟩
set_option maxRecDepth 100000 in
set_option maxHeartbeats 1000000 in
theorem add_keep (rb g n most : Nat) (f0 : Nat → UInt8 × Int) (k : UInt8) (t : Int) (w : World) (hr : w.cell? ⟨rb, 0, none⟩ = some (.slice (some ⟨g, 0, none⟩) n n)) (hf : w.frozen? ⟨rb, 0, none⟩ = false) (hc : ∀ j, j < n → w.rangeAt g (j * 67) (pcs (f0 j))) (hm : most ≤ 8) (hge : n < most) :
    Calls Yba.prog 8 #[.pointer (some ⟨rb, 0, none⟩), .agg (idc (k.toNat : Int)).toArray, .agg (tmc t).toArray, .int .i64 most] w fun e w' => e = .returned (.tuple #[]) ∧ AddPost rb k t w w' := by
  have hlt := block_lt_of_cell hr
  obtain ⟨i0, hi, hz0, hz1, hz2⟩ := info_parts info35'
  have H5 : Hid (Yba.prog.info? 35 = some i0 ∧ i0.zero = some (.agg z35) ∧ i0.size = 67 ∧ i0.bytes = 88) := ⟨hi, hz0, hz1, hz2⟩
  clear hi hz0 hz1 hz2
  obtain ⟨ao, hao⟩ : ∃ ao : Option Addr, ao = some ⟨g, 0, none⟩ := ⟨_, rfl⟩
  rw [← hao] at hr
  obtain ⟨n1, hn1⟩ : ∃ n1 : Nat, n1 = n := ⟨_, rfl⟩
  rw [← hn1] at hr hge hc
  obtain ⟨f, hfd⟩ : ∃ f : Nat → UInt8 × Int, f = f0 := ⟨_, rfl⟩
  rw [← hfd] at hc
  have HC : Hid (∀ j, j < n1 → w.rangeAt g (j * 67) (pcs (f j))) := hc
  have HAO : Hid (ao = some ⟨g, 0, none⟩) := hao
  clear hc hao hn1 hfd
  go_enter Yba.func8, Yba.ntmps8
  go_wp2
  obtain ⟨V, hV⟩ : ∃ V, ((w.alloc (.cells (idc (k.toNat : Int)).toArray 27)).alloc (.cells (tmc t).toArray 32)) = V := ⟨_, rfl⟩
  rw [hV]
  have hBw : Below w.heap.size w V := by rw [← hV]; exact ((Below.refl _ w).alloc (Nat.le_refl _) _).alloc (by simp) _
  have HV : Hid (Below rb w V) := hBw.mono (by omega)
  have rk : V.rangeAt w.heap.size 0 (idc (k.toNat : Int)) := rangeAt_block (t := 27) (fr := (0, 0)) (by rw [← hV]; exact heap_alloc2_old w _ _)
  have rt : V.rangeAt (w.heap.size + 1) 0 (tmc t) := rangeAt_block (t := 32) (fr := (0, 0)) (by rw [← hV]; exact heap_alloc2_new w _ _)
  have cR : V.cell? ⟨rb, 0, none⟩ = some (.slice ao n1 n1) := cell_later hBw hr
  have fR : V.frozen? ⟨rb, 0, none⟩ = false := (hBw.frozen (p := ⟨rb, 0, none⟩) hlt).trans hf
  have HO : Hid ((ao = none → n1 = 0 ∧ n1 = 0) ∧ n1 ≤ 1024 ∧ (∀ b, ao = some b → ∀ j u, (rows f n1)[j]? = some u → V.cell? (b.add j) = some u)) := by
    refine ⟨fun e => ?_, by omega, fun b hb j u hu => cell_later hBw ?_⟩
    · rw [HAO.out] at e; cases e
    · rw [HAO.out] at hb
      cases hb
      rw [Addr.add_mid]
      exact rows_cells f n1 (fun i hi => by have := HC.out i hi; rw [Nat.zero_add]; exact this) j u hu
  have cRd : V.drew.cell? ⟨rb, 0, none⟩ = some (.slice ao n1 n1) := cR
  clear hBw hV hr hf hge HAO HC
  have l1 := idc_length
  have l2 := tmc_length
  have l3 := zero35
  have l4 := z35_size
  have l5 := fold64
  have l6 := fold67
  refine wp_region_held_drew (S := fun w' => w'.rangeAt w.heap.size 0 (idc (k.toNat : Int)) ∧ w'.rangeAt (w.heap.size + 1) 0 (tmc t)) (by kernel_rfl) ⟨(World.rangeAt_drew _ _ _ _).2 rk, (World.rangeAt_drew _ _ _ _).2 rt⟩ (fun hHeld => ?_)
  refine wpAnyH_take (i := 0) (oi := { dst := some 27, op := .move (.tmp 0), type := 46, pos := _, after := _, guard := none }) (v := .pointer (some ⟨rb, 0, none⟩)) rfl (by kernel_rfl) (by kernel_rfl) (by kernel_rfl) (fun _ _ _ h => h) (Or.inl ⟨by rfl, fun w' hS' => ?_⟩) hHeld ?_
  · go_simp
  simp only [Act.put, List.setIfInBounds_toArray, List.set_cons_zero, List.set_cons_succ]
  refine wpAnyH_take (i := 1) (oi := { dst := some 28, op := .move (.tmp 0), type := 46, pos := _, after := _, guard := none }) (v := .pointer (some ⟨rb, 0, none⟩)) rfl (by kernel_rfl) (by kernel_rfl) (by kernel_rfl) (fun _ _ _ h => h) (Or.inl ⟨by rfl, fun w' hS' => ?_⟩) hHeld ?_
  · go_simp
  simp only [Act.put, List.setIfInBounds_toArray, List.set_cons_zero, List.set_cons_succ]
  refine wpAnyH_take (i := 2) (oi := { dst := some 29, op := .nilCheck (.tmp 28), type := 0, pos := _, after := _, guard := none }) (v := .pointer (some ⟨rb, 0, none⟩)) rfl (by kernel_rfl) (by kernel_rfl) (by kernel_rfl) (fun _ _ _ h => h) (Or.inl ⟨by rfl, fun w' hS' => ?_⟩) hHeld ?_
  · go_simp
  simp only [Act.put, List.setIfInBounds_toArray, List.set_cons_zero, List.set_cons_succ]
  refine wpAnyH_take (i := 4) (oi := { dst := some 31, op := .load 27 (.tmp 5), type := 27, pos := _, after := _, guard := none }) (v := .agg (idc (k.toNat : Int)).toArray) rfl (by kernel_rfl) (by kernel_rfl) (by kernel_rfl) (fun _ _ _ h => h) (yieldsIf_load_mid (by rfl) 27 (.tmp 5) rfl w.heap.size 0 rfl (idc (k.toNat : Int)) _ (fun _ h => h.1) Yba.underlying27 rfl (by rw [info27, idc_length])) hHeld ?_
  simp only [Act.put, List.setIfInBounds_toArray, List.set_cons_zero, List.set_cons_succ]
  refine wpAnyH_take (i := 5) (oi := { dst := some 32, op := .load 32 (.tmp 6), type := 32, pos := _, after := _, guard := none }) (v := .agg (tmc t).toArray) rfl (by kernel_rfl) (by kernel_rfl) (by kernel_rfl) (fun _ _ _ h => h) (yieldsIf_load_mid (by rfl) 32 (.tmp 6) rfl (w.heap.size + 1) 0 rfl (tmc t) _ (fun _ h => h.2) Yba.underlying32 rfl (by rw [info32, tmc_length])) hHeld ?_
  simp only [Act.put, List.setIfInBounds_toArray, List.set_cons_zero, List.set_cons_succ]
  refine wpAnyH_take (i := 6) (oi := { dst := some 33, op := .build 35 #[(0, .tmp 31), (1, .tmp 32)], type := 35, pos := _, after := _, guard := none }) (v := .agg (idc (k.toNat : Int) ++ tmc t).toArray) rfl (by kernel_rfl) (by kernel_rfl) (by kernel_rfl) (fun _ _ _ h => h) (Or.inl ⟨by rfl, fun w' hS' => ?_⟩) hHeld ?_
  · go_simp
  simp only [Act.put, List.setIfInBounds_toArray, List.set_cons_zero, List.set_cons_succ]
  refine wpAnyH_ready (rs := [3, 7]) (by kernel_rfl) (by simp) (AllReadyH.cons (o := { dst := some 30, op := .load 25 (.tmp 29), type := 25, pos := _, after := _, guard := none }) rfl (fun K hK => ?_) (AllReadyH.cons (o := { dst := some 34, op := .buildSlice 25 1 #[(0, .tmp 33)], type := 25, pos := _, after := _, guard := none }) rfl (fun K hK => ?_) AllReadyH.nil))
  · refine step_load (by rfl) 29 (by rfl) rb (by rfl) (.slice ao n1 n1) cRd ?_
    refine hK.out _ _ hHeld (fun hH3 => ?_)
    clear hK K
    simp only [Act.put, List.setIfInBounds_toArray, List.set_cons_zero, List.set_cons_succ]
    refine wpAnyH_ready (rs := [7]) (by kernel_rfl) (by simp) (AllReadyH.cons (o := { dst := some 34, op := .buildSlice 25 1 #[(0, .tmp 33)], type := 25, pos := _, after := _, guard := none }) rfl (fun K hK => ?_) AllReadyH.nil)
    refine step_buildSlice (by rfl) 33 (by rfl) (idc (k.toNat : Int) ++ tmc t).toArray (by rfl) (pcs_size (k, t)) ?_
    refine hK.out _ _ ⟨World.rangeAt_alloc ((World.rangeAt_drew _ _ _ _).2 rk) _, World.rangeAt_alloc ((World.rangeAt_drew _ _ _ _).2 rt) _⟩ (fun _ => ?_)
    clear hK K
    simp only [Act.put, List.setIfInBounds_toArray, List.set_cons_zero, List.set_cons_succ]
    obtain ⟨U, hU⟩ : ∃ U, V.drew.alloc (.cells (idc (k.toNat : Int) ++ tmc t).toArray 35) = U := ⟨_, rfl⟩
    have hBU : Below V.heap.size V U := by rw [← hU]; exact ((Below.refl _ V).drew).alloc (Nat.le_refl _) _
    have hUn : U.heap[V.heap.size]? = some (.cells (idc (k.toNat : Int) ++ tmc t).toArray 35) := by rw [← hU]; exact heap_alloc_new V.drew _
    rw [show V.drew.alloc (.cells (idc (k.toNat : Int) ++ tmc t).toArray 35) = U from hU]
    clear hU
    have rkU : U.rangeAt w.heap.size 0 (idc (k.toNat : Int)) := fun j v hv => cell_later hBU (rk j v hv)
    have rtU : U.rangeAt (w.heap.size + 1) 0 (tmc t) := fun j v hv => cell_later hBU (rt j v hv)
    have cU := cell_later hBU cR
    have fU : U.frozen? ⟨rb, 0, none⟩ = false := (hBU.frozen (p := ⟨rb, 0, none⟩) (block_lt_of_cell cR)).trans fR
    refine wpAnyH_ready (rs := [8]) (by kernel_rfl) (by simp) (AllReadyH.cons (o := { dst := some 35, op := .call { callee := .builtin .append, args := #[.tmp 30, .tmp 34], argTypes := #[25, 25] }, type := 25, pos := _, after := _, guard := none }) rfl (fun K hK => ?_) AllReadyH.nil)
    refine step_append_grows (by rfl) (.tmp 30) (.tmp 34) 25 (by rfl) 35 i0 (.agg z35) 67 88 Yba.underlying25 H5.out.1 H5.out.2.1 H5.out.2.2.1 H5.out.2.2.2 z35_size (by omega) ao n1 n1 (rows f n1) (by rfl) HO.out.1 (rows_length f n1) (fun b hb j u hu => cell_later hBU (HO.out.2.2 b hb j u hu)) ⟨V.heap.size, 0, none⟩ 1 1 (pcs (k, t)) (by rfl) (by rw [pcs_length]) (World.news_of_block (cs := (pcs (k, t)).toArray) (t := 35) (fr := (0, 0)) hUn) (pcs_one _) (by omega) (by have := HO.out.2.1; unfold maxLen; omega) (by have := HO.out.2.1; omega) ?_
    intro v' V2 hown hgrow
    have hB2 : Below U.heap.size U V2 := grownBy_below hgrow
    obtain ⟨g', cap', hv⟩ := ownsRow_succ hown
    rw [hv] at hown ⊢
    have c2 := cell_later hB2 cU
    have f2 : V2.frozen? ⟨rb, 0, none⟩ = false := (hB2.frozen (p := ⟨rb, 0, none⟩) (block_lt_of_cell cU)).trans fU
    refine hK.out _ _ ⟨fun j v hv => cell_later hB2 (rkU j v hv), fun j v hv => cell_later hB2 (rtU j v hv)⟩ (fun hH8 => ?_)
    clear hK K
    simp only [Act.put, List.setIfInBounds_toArray, List.set_cons_zero, List.set_cons_succ]
    refine wpAnyH_take (i := 9) (oi := { dst := some 36, op := .nilCheck (.tmp 27), type := 0, pos := _, after := _, guard := none }) (v := .pointer (some ⟨rb, 0, none⟩)) rfl (by kernel_rfl) (by kernel_rfl) (by kernel_rfl) (fun _ _ _ h => h) (Or.inl ⟨by rfl, fun w' hS' => ?_⟩) hH8 ?_
    · go_simp
    simp only [Act.put, List.setIfInBounds_toArray, List.set_cons_zero, List.set_cons_succ]
    refine wpAnyH_ready (rs := [10]) (by kernel_rfl) (by simp) (AllReadyH.cons (o := { dst := none, op := .store 25 (.tmp 36) (.tmp 35), type := 0, pos := _, after := _, guard := none }) rfl (fun K hK => ?_) AllReadyH.nil)
    go_simp
    refine hK.out _ _ ⟨range_setCell hH8.1 (p := ⟨rb, 0, none⟩) (by show rb ≠ _; omega) _, range_setCell hH8.2 (p := ⟨rb, 0, none⟩) (by show rb ≠ _; omega) _⟩ (fun _ => ?_)
    clear hK K
    refine wpAnyH_done (by kernel_rfl) ?_ _
    have HF : Hid (AddPost rb k t w (V2.setCell ⟨rb, 0, none⟩ (.slice (some ⟨g', 0, none⟩) (n1 + 1) cap'))) := add_fin hlt HV.out hBU hB2 hown c2 HO.out.2.1
    clear hown hgrow hB2 hBU hUn rkU rtU cU fU c2 f2 rk rt cR fR hH8 HO cRd HV
    go_wp2
    go_end0
    exact ⟨rfl, HF.out⟩
  · refine step_buildSlice (by rfl) 33 (by rfl) (idc (k.toNat : Int) ++ tmc t).toArray (by rfl) (pcs_size (k, t)) ?_
    refine hK.out _ _ ⟨World.rangeAt_alloc ((World.rangeAt_drew _ _ _ _).2 rk) _, World.rangeAt_alloc ((World.rangeAt_drew _ _ _ _).2 rt) _⟩ (fun _ => ?_)
    clear hK K
    simp only [Act.put, List.setIfInBounds_toArray, List.set_cons_zero, List.set_cons_succ]
    obtain ⟨U, hU⟩ : ∃ U, V.drew.alloc (.cells (idc (k.toNat : Int) ++ tmc t).toArray 35) = U := ⟨_, rfl⟩
    have hBU : Below V.heap.size V U := by rw [← hU]; exact ((Below.refl _ V).drew).alloc (Nat.le_refl _) _
    have hUn : U.heap[V.heap.size]? = some (.cells (idc (k.toNat : Int) ++ tmc t).toArray 35) := by rw [← hU]; exact heap_alloc_new V.drew _
    rw [show V.drew.alloc (.cells (idc (k.toNat : Int) ++ tmc t).toArray 35) = U from hU]
    clear hU
    have rkU : U.rangeAt w.heap.size 0 (idc (k.toNat : Int)) := fun j v hv => cell_later hBU (rk j v hv)
    have rtU : U.rangeAt (w.heap.size + 1) 0 (tmc t) := fun j v hv => cell_later hBU (rt j v hv)
    have cU := cell_later hBU cR
    have fU : U.frozen? ⟨rb, 0, none⟩ = false := (hBU.frozen (p := ⟨rb, 0, none⟩) (block_lt_of_cell cR)).trans fR
    refine wpAnyH_ready (rs := [3]) (by kernel_rfl) (by simp) (AllReadyH.cons (o := { dst := some 30, op := .load 25 (.tmp 29), type := 25, pos := _, after := _, guard := none }) rfl (fun K hK => ?_) AllReadyH.nil)
    refine step_load (by rfl) 29 (by rfl) rb (by rfl) (.slice ao n1 n1) cU ?_
    refine hK.out _ _ ⟨rkU, rtU⟩ (fun _ => ?_)
    clear hK K
    simp only [Act.put, List.setIfInBounds_toArray, List.set_cons_zero, List.set_cons_succ]
    refine wpAnyH_ready (rs := [8]) (by kernel_rfl) (by simp) (AllReadyH.cons (o := { dst := some 35, op := .call { callee := .builtin .append, args := #[.tmp 30, .tmp 34], argTypes := #[25, 25] }, type := 25, pos := _, after := _, guard := none }) rfl (fun K hK => ?_) AllReadyH.nil)
    refine step_append_grows (by rfl) (.tmp 30) (.tmp 34) 25 (by rfl) 35 i0 (.agg z35) 67 88 Yba.underlying25 H5.out.1 H5.out.2.1 H5.out.2.2.1 H5.out.2.2.2 z35_size (by omega) ao n1 n1 (rows f n1) (by rfl) HO.out.1 (rows_length f n1) (fun b hb j u hu => cell_later hBU (HO.out.2.2 b hb j u hu)) ⟨V.heap.size, 0, none⟩ 1 1 (pcs (k, t)) (by rfl) (by rw [pcs_length]) (World.news_of_block (cs := (pcs (k, t)).toArray) (t := 35) (fr := (0, 0)) hUn) (pcs_one _) (by omega) (by have := HO.out.2.1; unfold maxLen; omega) (by have := HO.out.2.1; omega) ?_
    intro v' V2 hown hgrow
    have hB2 : Below U.heap.size U V2 := grownBy_below hgrow
    obtain ⟨g', cap', hv⟩ := ownsRow_succ hown
    rw [hv] at hown ⊢
    have c2 := cell_later hB2 cU
    have f2 : V2.frozen? ⟨rb, 0, none⟩ = false := (hB2.frozen (p := ⟨rb, 0, none⟩) (block_lt_of_cell cU)).trans fU
    refine hK.out _ _ ⟨fun j v hv => cell_later hB2 (rkU j v hv), fun j v hv => cell_later hB2 (rtU j v hv)⟩ (fun hH8 => ?_)
    clear hK K
    simp only [Act.put, List.setIfInBounds_toArray, List.set_cons_zero, List.set_cons_succ]
    refine wpAnyH_take (i := 9) (oi := { dst := some 36, op := .nilCheck (.tmp 27), type := 0, pos := _, after := _, guard := none }) (v := .pointer (some ⟨rb, 0, none⟩)) rfl (by kernel_rfl) (by kernel_rfl) (by kernel_rfl) (fun _ _ _ h => h) (Or.inl ⟨by rfl, fun w' hS' => ?_⟩) hH8 ?_
    · go_simp
    simp only [Act.put, List.setIfInBounds_toArray, List.set_cons_zero, List.set_cons_succ]
    refine wpAnyH_ready (rs := [10]) (by kernel_rfl) (by simp) (AllReadyH.cons (o := { dst := none, op := .store 25 (.tmp 36) (.tmp 35), type := 0, pos := _, after := _, guard := none }) rfl (fun K hK => ?_) AllReadyH.nil)
    go_simp
    refine hK.out _ _ ⟨range_setCell hH8.1 (p := ⟨rb, 0, none⟩) (by show rb ≠ _; omega) _, range_setCell hH8.2 (p := ⟨rb, 0, none⟩) (by show rb ≠ _; omega) _⟩ (fun _ => ?_)
    clear hK K
    refine wpAnyH_done (by kernel_rfl) ?_ _
    have HF : Hid (AddPost rb k t w (V2.setCell ⟨rb, 0, none⟩ (.slice (some ⟨g', 0, none⟩) (n1 + 1) cap'))) := add_fin hlt HV.out hBU hB2 hown c2 HO.out.2.1
    clear hown hgrow hB2 hBU hUn rkU rtU cU fU c2 f2 rk rt cR fR hH8 HO cRd HV
    go_wp2
    go_end0
    exact ⟨rfl, HF.out⟩
theorem add_peer (rb g n most : Nat) (f0 : Nat → UInt8 × Int) (k : UInt8) (t : Int) (w : World) (hr : w.cell? ⟨rb, 0, none⟩ = some (.slice (some ⟨g, 0, none⟩) n n)) (hf : w.frozen? ⟨rb, 0, none⟩ = false) (hgr : g ≠ rb) (hc : ∀ j, j < n → w.rangeAt g (j * 67) (pcs (f0 j))) (hn : n ≤ 1024) (hm0 : 1 ≤ most) (hm : most ≤ 8) :
    Calls Yba.prog 8 #[.pointer (some ⟨rb, 0, none⟩), .agg (idc (k.toNat : Int)).toArray, .agg (tmc t).toArray, .int .i64 most] w fun e w' => e = .returned (.tuple #[]) ∧ AddPost rb k t w w' := by
  by_cases h : most ≤ n
  · exact add_cut rb g n most f0 k t w hr hf hgr hc hn hm0 hm h
  · exact add_keep rb g n most f0 k t w hr hf hc hm (by omega)
end Go.Proofs.Ybulkbbkq
