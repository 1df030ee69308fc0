/-
  The walk of LawS2629AAddThenHas: the loop that builds r in a box (each order of its region), add, has.
-/
import Derived.Test.YbulkbbkqAdd
namespace Go.Proofs.Ybulkbbkq
open Go.RowKit
set_option linter.unusedSimpArgs false
theorem heap_setCells (b : Nat) : ∀ (vs : List Value) (o : Nat) (w : World) (k : Nat), k ≠ b → (w.setCells b o vs).heap[k]? = w.heap[k]?
  | [], _, _, _, _ => rfl
  | v :: vs, o, w, k, h => (heap_setCells b vs (o + 1) _ k h).trans (heap_setCell_other w ⟨b, o, none⟩ k v h)
/-- WHAT THE LOOP THAT BUILDS r IN A BOX KEEPS -/
structure LInv (w : World) (rb n k : Nat) (I T : Nat → Int) (W : World) : Prop where
  box : Boxed W rb 25 (.slice (some ⟨w.heap.size, 0, none⟩) k n)
  built : Built W w.heap.size n k I T
  bel : Below w.heap.size w W
/-- the same in a round: the two elements that are read -/
structure Inv (w : World) (rb n k : Nat) (I T : Nat → Int) (b0 f0 b1 f1 : Nat) (W : World) : Prop where
  box : Boxed W rb 25 (.slice (some ⟨w.heap.size, 0, none⟩) k n)
  built : Built W w.heap.size n k I T
  bel : Below w.heap.size w W
  c0 : W.cell? ⟨b0, f0 + k, none⟩ = some (.int .u8 (I k))
  c1 : W.cell? ⟨b1, f1 + k, none⟩ = some (.int .i32 (T k))
theorem Inv.below {w : World} {rb n k : Nat} {I T : Nat → Int} {b0 f0 b1 f1 : Nat} {W W' : World} (h : Inv w rb n k I T b0 f0 b1 f1 W) (hb : Below W.heap.size W W') : Inv w rb n k I T b0 f0 b1 f1 W' :=
  ⟨(hb.block _ h.box.lt).trans h.box, h.built.below hb, h.bel.trans (hb.mono h.bel.size), cell_later hb h.c0, cell_later hb h.c1⟩
theorem Built.setCell {w : World} {g n k : Nat} {I T : Nat → Int} (h : Built w g n k I T) {p : Addr} (hp : p.block ≠ g) (v : Value) : Built (w.setCell p v) g n k I T :=
  ⟨fun j hj => by rw [World.cell?_setCell_far w p ⟨g, 0 + j, none⟩ v hp, World.frozen?_setCell]; exact h.room j hj, fun j hj => range_setCell (h.cells j hj) hp v⟩
theorem inv_step {w : World} {rb n k : Nat} {I T : Nat → Int} {b0 f0 b1 f1 : Nat} {U : World} (h : Inv w rb n k I T b0 f0 b1 f1 U) (hrb : w.heap.size < rb) (hk : k < n) :
    Boxed (U.setCells w.heap.size (0 + k * 67) (pcs (peer I T k))) rb 25 (.slice (some ⟨w.heap.size, 0, none⟩) k n) ∧
    LInv w rb n (k + 1) I T ((U.setCells w.heap.size (0 + k * 67) (pcs (peer I T k))).setCell ⟨rb, 0, none⟩ (.slice (some ⟨w.heap.size, 0, none⟩) (k + 1) n)) := by
  have hbox : Boxed (U.setCells w.heap.size (0 + k * 67) (pcs (peer I T k))) rb 25 (.slice (some ⟨w.heap.size, 0, none⟩) k n) := (heap_setCells _ _ _ _ _ (by omega)).trans h.box
  refine ⟨hbox, hbox.set _, (h.built.step hk).setCell (p := ⟨rb, 0, none⟩) (by show rb ≠ _; omega) _, ?_⟩
  exact (below_setCells (Nat.le_refl _) _ _ h.bel).setCell (p := ⟨rb, 0, none⟩) (by show _ ≤ rb; omega) _
theorem has_last (g cap m : Nat) (f : Nat → UInt8 × Int) (k : UInt8) (t : Int) (w : World) (hg : g < w.heap.size) (hc : ∀ j, j < m + 1 → w.rangeAt g (j * 67) (pcs (f j))) (hf : f m = (k, t)) (hm : m ≤ 1024) :
    Calls Yba.prog 7 #[.slice (some ⟨g, 0, none⟩) (m + 1) cap, .agg (idc (k.toNat : Int)).toArray, .agg (tmc t).toArray] w fun e w' => e = .returned (.bool true) ∧ Below w.heap.size w w' := by
  have hl : ((List.range (m + 1)).map f).length = m + 1 := by simp
  have he : ∀ j, j < m + 1 → elt ((List.range (m + 1)).map f) j = f j := fun j hj => by simp [elt, List.getD, hj]
  have := has_any g 0 cap ((List.range (m + 1)).map f) (by rw [hl]; omega) k t w hg (fun j hj => by
    rw [hl] at hj
    rw [he j hj, Nat.zero_add]; exact hc j hj)
  rw [hasB_all, hl, down, he m (by omega), hf, if_neg (by show ¬ t < t; omega), if_pos (by simp)] at this
  exact this
set_option maxRecDepth 100000 in
set_option maxHeartbeats 2000000 in
theorem ath_A (a0 a1 : Option Addr) (len0 cap0 len1 cap1 : Nat) (I T : Nat → Int) (x s m : Int) (w : World) (hI : ∀ i, 0 ≤ I i ∧ I i ≤ 255) (hT : ∀ i, -2147483648 ≤ T i ∧ T i ≤ 2147483647) (x0 : 0 ≤ x) (x1 : x ≤ 255) (s0 : -2147483648 ≤ s) (s1 : s ≤ 2147483647) (m0 : 0 ≤ m) (m1 : m ≤ 255)
    (hl0 : len0 ≤ 1024) (hl1 : len1 ≤ 1024) (hlt : ¬ len1 < len0) (V0 : View w a0 .u8 len0 I) (V1 : View w a1 .i32 len0 T) :
    Calls Yba.prog 4 #[.slice a0 len0 cap0, .slice a1 len1 cap1, .int .u8 x, .int .i32 s, .int .u8 m] w fun e w' => e = .returned (.bool true) ∧ Below w.heap.size w w' := by
  obtain ⟨i0, hi, hz0, hz1, hz2⟩ := info_parts info35'
  have H5 : Hid (Yba.prog.info? 35 = some i0 ∧ i0.zero = some (.agg z35) ∧ i0.size = 67 ∧ i0.bytes = 88) := ⟨hi, hz0, hz1, hz2⟩
  clear hi hz0 hz1 hz2
  go_enter Yba.func4, Yba.ntmps4
  go_wp2_with (at_make; refine wpList_make_own _ rfl _ _ 25 rfl w.heap.size 35 i0 (.agg z35) 67 Yba.underlying25 H5.out.1 H5.out.2.1 H5.out.2.2.1 .i64 .i64 _ len0 rfl rfl (by omega) (by rw [H5.out.2.2.2]; omega) (by unfold maxLen; omega) (Nat.le_refl _) ?_; intro w1 hown hgrow)
  have hB1 : Below w.heap.size w w1 := (Below.refl _ w).grown hgrow (Nat.le_refl _) (fun k e => by cases e)
  have hbt : Built w1 w.heap.size len0 0 I T := ⟨there_made hown, fun j hj => absurd hj (by omega)⟩
  have hg1 : w.heap.size < w1.heap.size := by
    rcases hown.2 with ⟨e, _⟩ | ⟨g', cap, cur, e, _, hb, _⟩
    · cases e
    · cases e; exact (Array.getElem?_eq_some_iff.1 hb).1
  clear hown hgrow
  obtain ⟨rb, hrbd⟩ : ∃ rb, rb = w1.heap.size := ⟨_, rfl⟩
  rw [← hrbd]
  have hrb : w.heap.size < rb := by omega
  obtain ⟨W1, hW1⟩ : ∃ W1, w1.alloc (.cells #[.slice (some ⟨w.heap.size, 0, none⟩) 0 len0] 25) = W1 := ⟨_, rfl⟩
  have hL0 : LInv w rb len0 0 I T W1 := by
    rw [← hW1, hrbd]
    exact ⟨Boxed.new w1 25 _, hbt.alloc _, hB1.alloc (by omega) _⟩
  rw [hW1]
  clear hW1 hrbd hbt hB1 hg1
  go_loopw [13] (fun i wr => ∃ k : Nat, k ≤ len0 ∧ i = .int .i64 k ∧ LInv w rb len0 k I T wr) (fun i _ => len0 - (intOf i).toNat)
  case atStart => exact ⟨0, Nat.zero_le _, rfl, hL0⟩
  case round =>
    obtain ⟨k, hk, rfl, hinv⟩ := hrel
    clear hL0
    by_cases hlk : k < len0
    · obtain ⟨b0, f0, rfl, hb0, hc0⟩ := V0 (by omega)
      obtain ⟨b1, f1, rfl, hb1, hc1⟩ := V1 (by omega)
      have hD : Inv w rb len0 k I T b0 f0 b1 f1 wr.drew := Inv.below ⟨hinv.box, hinv.built, hinv.bel, (hinv.bel.cell (p := ⟨b0, f0 + k, none⟩) hb0).trans (hc0 k hlk), (hinv.bel.cell (p := ⟨b1, f1 + k, none⟩) hb1).trans (hc1 k hlk)⟩ (Below.refl _ wr).drew
      have ne0 : b0 ≠ w.heap.size := by omega
      have ne1 : b1 ≠ w.heap.size := by omega
      have hi0 := hI k
      have hi1 := hT k
      have l1 := idc_length
      have l2 := tmc_length
      have l3 := zero35
      have l4 := z35_size
      have l5 := fold64
      have l6 := fold67
      have u0 : (0 : Int) ≤ (k : Int) := by omega
      have u1 : (k : Int) < (len0 : Int) := by omega
      have u2 : (k : Int) < (len1 : Int) := by omega
      clear hinv hc0 hc1 V0 V1 hI hT
      go_wp2
      refine wp_region_held_drew (S := fun w' => w'.cell? ⟨b0, f0 + k, none⟩ = some (.int .u8 (I k)) ∧ w'.cell? ⟨b1, f1 + k, none⟩ = some (.int .i32 (T k))) (by kernel_rfl) ⟨hD.c0, hD.c1⟩ (fun hHeld => ?_)
      refine wpAnyH_take (i := 1) (oi := { dst := some 39, op := .move (.tmp 0), type := 22, pos := _, after := _, guard := none }) (v := .slice (some ⟨b0, f0, none⟩) len0 cap0) rfl (by kernel_rfl) (by kernel_rfl) (by kernel_rfl) (fun _ _ _ h => h) (Or.inl ⟨by rfl, fun w' hS' => ?_⟩) hHeld ?_
      · have hS1 := hS'.1
        have hS2 := hS'.2
        go_simp
      simp only [Act.put, List.setIfInBounds_toArray, List.set_cons_zero, List.set_cons_succ]
      refine wpAnyH_take (i := 2) (oi := { dst := some 40, op := .move (.tmp 13), type := 3, pos := _, after := _, guard := none }) (v := .int .i64 k) rfl (by kernel_rfl) (by kernel_rfl) (by kernel_rfl) (fun _ _ _ h => h) (Or.inl ⟨by rfl, fun w' hS' => ?_⟩) hHeld ?_
      · have hS1 := hS'.1
        have hS2 := hS'.2
        go_simp
      simp only [Act.put, List.setIfInBounds_toArray, List.set_cons_zero, List.set_cons_succ]
      refine wpAnyH_take (i := 3) (oi := { dst := some 41, op := .indexAddr 22 (.tmp 39) (.tmp 40), type := 0, pos := _, after := _, guard := none }) (v := .pointer (some ⟨b0, f0 + k, none⟩)) rfl (by kernel_rfl) (by kernel_rfl) (by kernel_rfl) (fun _ _ _ h => h) (Or.inl ⟨by rfl, fun w' hS' => ?_⟩) hHeld ?_
      · have hS1 := hS'.1
        have hS2 := hS'.2
        go_simp
      simp only [Act.put, List.setIfInBounds_toArray, List.set_cons_zero, List.set_cons_succ]
      refine wpAnyH_take (i := 4) (oi := { dst := some 42, op := .load 5 (.tmp 41), type := 5, pos := _, after := _, guard := none }) (v := .int .u8 (I k)) rfl (by kernel_rfl) (by kernel_rfl) (by kernel_rfl) (fun _ _ _ h => h) (Or.inl ⟨by rfl, fun w' hS' => ?_⟩) hHeld ?_
      · have hS1 := hS'.1
        have hS2 := hS'.2
        go_simp
      simp only [Act.put, List.setIfInBounds_toArray, List.set_cons_zero, List.set_cons_succ]
      refine wpAnyH_take (i := 6) (oi := { dst := some 44, op := .move (.tmp 1), type := 23, pos := _, after := _, guard := none }) (v := .slice (some ⟨b1, f1, none⟩) len1 cap1) rfl (by kernel_rfl) (by kernel_rfl) (by kernel_rfl) (fun _ _ _ h => h) (Or.inl ⟨by rfl, fun w' hS' => ?_⟩) hHeld ?_
      · have hS1 := hS'.1
        have hS2 := hS'.2
        go_simp
      simp only [Act.put, List.setIfInBounds_toArray, List.set_cons_zero, List.set_cons_succ]
      refine wpAnyH_take (i := 7) (oi := { dst := some 45, op := .move (.tmp 13), type := 3, pos := _, after := _, guard := none }) (v := .int .i64 k) rfl (by kernel_rfl) (by kernel_rfl) (by kernel_rfl) (fun _ _ _ h => h) (Or.inl ⟨by rfl, fun w' hS' => ?_⟩) hHeld ?_
      · have hS1 := hS'.1
        have hS2 := hS'.2
        go_simp
      simp only [Act.put, List.setIfInBounds_toArray, List.set_cons_zero, List.set_cons_succ]
      refine wpAnyH_take (i := 8) (oi := { dst := some 46, op := .indexAddr 23 (.tmp 44) (.tmp 45), type := 0, pos := _, after := _, guard := none }) (v := .pointer (some ⟨b1, f1 + k, none⟩)) rfl (by kernel_rfl) (by kernel_rfl) (by kernel_rfl) (fun _ _ _ h => h) (Or.inl ⟨by rfl, fun w' hS' => ?_⟩) hHeld ?_
      · have hS1 := hS'.1
        have hS2 := hS'.2
        go_simp
      simp only [Act.put, List.setIfInBounds_toArray, List.set_cons_zero, List.set_cons_succ]
      refine wpAnyH_take (i := 9) (oi := { dst := some 47, op := .load 21 (.tmp 46), type := 21, pos := _, after := _, guard := none }) (v := .int .i32 (T k)) rfl (by kernel_rfl) (by kernel_rfl) (by kernel_rfl) (fun _ _ _ h => h) (Or.inl ⟨by rfl, fun w' hS' => ?_⟩) hHeld ?_
      · have hS1 := hS'.1
        have hS2 := hS'.2
        go_simp
      simp only [Act.put, List.setIfInBounds_toArray, List.set_cons_zero, List.set_cons_succ]
      refine wpAnyH_ready (rs := [0, 5]) (by kernel_rfl) (by simp) (AllReadyH.cons (o := { dst := some 38, op := .load 25 (.tmp 12), type := 25, pos := _, after := _, guard := none }) rfl (fun K hK => ?_) (AllReadyH.cons (o := { dst := some 43, op := .call { callee := .value (.func 5), args := #[.tmp 42], argTypes := #[5] }, type := 27, pos := _, after := _, guard := none }) rfl (fun K hK => ?_) AllReadyH.nil))
      · refine step_load (by rfl) 12 (by rfl) rb (by rfl) (.slice (some ⟨w.heap.size, 0, none⟩) k len0) hD.box.cell ?_
        refine hK.out _ _ ⟨hD.c0, hD.c1⟩ (fun _ => ?_)
        clear hK K
        simp only [Act.put, List.setIfInBounds_toArray, List.set_cons_zero, List.set_cons_succ]
        refine wpAnyH_ready (rs := [5]) (by kernel_rfl) (by simp) (AllReadyH.cons (o := { dst := some 43, op := .call { callee := .value (.func 5), args := #[.tmp 42], argTypes := #[5] }, type := 27, pos := _, after := _, guard := none }) rfl (fun K hK => ?_) AllReadyH.nil)
        go_simp
        refine (id_peer _ _ hi0.1 hi0.2).mono ?_
        rintro e w2 ⟨rfl, hb2⟩
        have h2 := hD.below hb2
        refine hK.out _ _ ⟨h2.c0, h2.c1⟩ (fun _ => ?_)
        clear hK K hb2
        refine wpAnyH_ready (rs := [10]) (by kernel_rfl) (by simp) (AllReadyH.cons (o := { dst := some 48, op := .call { callee := .value (.func 6), args := #[.tmp 47], argTypes := #[21] }, type := 32, pos := _, after := _, guard := none }) rfl (fun K hK => ?_) AllReadyH.nil)
        go_simp
        refine (at_peer _ _ hi1.1 hi1.2).mono ?_
        rintro e w3 ⟨rfl, hb3⟩
        have h3 := h2.below hb3
        refine hK.out _ _ ⟨h3.c0, h3.c1⟩ (fun _ => ?_)
        clear hK K hb3
        refine wpAnyH_take (i := 11) (oi := { dst := some 49, op := .build 35 #[(0, .tmp 43), (1, .tmp 48)], type := 35, pos := _, after := _, guard := none }) (v := .agg (idc ((bid (I k)).toNat : Int) ++ tmc (T k)).toArray) rfl (by kernel_rfl) (by kernel_rfl) (by kernel_rfl) (fun _ _ _ h => h) (Or.inl ⟨by rfl, fun w' hS' => ?_⟩) ⟨h3.c0, h3.c1⟩ ?_
        · have hS1 := hS'.1
          have hS2 := hS'.2
          go_simp
        simp only [Act.put, List.setIfInBounds_toArray, List.set_cons_zero, List.set_cons_succ]
        refine wpAnyH_ready (rs := [12]) (by kernel_rfl) (by simp) (AllReadyH.cons (o := { dst := some 50, op := .buildSlice 25 1 #[(0, .tmp 49)], type := 25, pos := _, after := _, guard := none }) rfl (fun K hK => ?_) AllReadyH.nil)
        refine step_buildSlice (by rfl) 49 (by rfl) (idc ((bid (I k)).toNat : Int) ++ tmc (T k)).toArray (by rfl) (pcs_size (peer I T k)) ?_
        have hU := h3.below ((Below.refl _ w3).alloc (Nat.le_refl _) (.cells (idc ((bid (I k)).toNat : Int) ++ tmc (T k)).toArray 35))
        have hUn := heap_alloc_new w3 (.cells (idc ((bid (I k)).toNat : Int) ++ tmc (T k)).toArray 35)
        refine hK.out _ _ ⟨hU.c0, hU.c1⟩ (fun _ => ?_)
        clear hK K
        simp only [Act.put, List.setIfInBounds_toArray, List.set_cons_zero, List.set_cons_succ]
        refine wpAnyH_ready (rs := [13]) (by kernel_rfl) (by simp) (AllReadyH.cons (o := { dst := some 51, op := .call { callee := .builtin .append, args := #[.tmp 38, .tmp 50], argTypes := #[25, 25] }, type := 25, pos := _, after := _, guard := none }) rfl (fun K hK => ?_) AllReadyH.nil)
        refine step_append_room (by rfl) (.tmp 38) (.tmp 50) 25 (by rfl) 35 i0 67 Yba.underlying25 H5.out.1 H5.out.2.2.1 w.heap.size 0 k len0 (by rfl) ⟨w3.heap.size, 0, none⟩ 1 1 (pcs (peer I T k)) (by rfl) (by rw [pcs_length]) (World.news_of_block (cs := (pcs (peer I T k)).toArray) (t := 35) (fr := (0, 0)) hUn) (pcs_one _) (by omega) (by rw [pcs_length]; exact hU.built.spare hlk) ?_
        refine hK.out _ _ ⟨cell_far hU.c0 ne0, cell_far hU.c1 ne1⟩ (fun hH => ?_)
        clear hK K
        simp only [Act.put, List.setIfInBounds_toArray, List.set_cons_zero, List.set_cons_succ]
        obtain ⟨bY, HZ⟩ := inv_step hU hrb hlk
        obtain ⟨Y, hY⟩ : ∃ Y, (w3.alloc (.cells (idc ((bid (I k)).toNat : Int) ++ tmc (T k)).toArray 35)).setCells w.heap.size (0 + k * 67) (pcs (peer I T k)) = Y := ⟨_, rfl⟩
        have cH := hH.1
        have cH' := hH.2
        rw [hY] at bY HZ cH cH' ⊢
        have cY := bY.cell
        have fY := bY.frozen
        clear hY hU hUn hH
        refine wpAnyH_ready (rs := [14]) (by kernel_rfl) (by simp) (AllReadyH.cons (o := { dst := none, op := .store 25 (.tmp 12) (.tmp 51), type := 0, pos := _, after := _, guard := none }) rfl (fun K hK => ?_) AllReadyH.nil)
        go_simp
        refine hK.out _ _ ⟨(World.cell?_setCell_far _ _ _ _ (by show rb ≠ b0; omega)).trans cH, (World.cell?_setCell_far _ _ _ _ (by show rb ≠ b1; omega)).trans cH'⟩ (fun _ => ?_)
        clear hK K
        refine wpAnyH_done (by kernel_rfl) ?_ _
        have R : Hid (LInv w rb len0 (k + 1) I T (Y.setCell ⟨rb, 0, none⟩ (.slice (some ⟨w.heap.size, 0, none⟩) (k + 1) len0))) := HZ
        clear HZ bY cY fY cH cH' hi0 hi1 l1 l2 l3 l4 l5 l6
        go_wp2
        go_roundw
        case rel => exact ⟨k + 1, by omega, by go_num, R.out⟩
        case measure => simp [intOf]; omega
      · go_simp
        refine (id_peer _ _ hi0.1 hi0.2).mono ?_
        rintro e w2 ⟨rfl, hb2⟩
        have h2 := hD.below hb2
        refine hK.out _ _ ⟨h2.c0, h2.c1⟩ (fun _ => ?_)
        clear hK K hb2
        refine wpAnyH_ready (rs := [0, 10]) (by kernel_rfl) (by simp) (AllReadyH.cons (o := { dst := some 38, op := .load 25 (.tmp 12), type := 25, pos := _, after := _, guard := none }) rfl (fun K hK => ?_) (AllReadyH.cons (o := { dst := some 48, op := .call { callee := .value (.func 6), args := #[.tmp 47], argTypes := #[21] }, type := 32, pos := _, after := _, guard := none }) rfl (fun K hK => ?_) AllReadyH.nil))
        · refine step_load (by rfl) 12 (by rfl) rb (by rfl) (.slice (some ⟨w.heap.size, 0, none⟩) k len0) h2.box.cell ?_
          refine hK.out _ _ ⟨h2.c0, h2.c1⟩ (fun _ => ?_)
          clear hK K
          simp only [Act.put, List.setIfInBounds_toArray, List.set_cons_zero, List.set_cons_succ]
          refine wpAnyH_ready (rs := [10]) (by kernel_rfl) (by simp) (AllReadyH.cons (o := { dst := some 48, op := .call { callee := .value (.func 6), args := #[.tmp 47], argTypes := #[21] }, type := 32, pos := _, after := _, guard := none }) rfl (fun K hK => ?_) AllReadyH.nil)
          go_simp
          refine (at_peer _ _ hi1.1 hi1.2).mono ?_
          rintro e w3 ⟨rfl, hb3⟩
          have h3 := h2.below hb3
          refine hK.out _ _ ⟨h3.c0, h3.c1⟩ (fun _ => ?_)
          clear hK K hb3
          refine wpAnyH_take (i := 11) (oi := { dst := some 49, op := .build 35 #[(0, .tmp 43), (1, .tmp 48)], type := 35, pos := _, after := _, guard := none }) (v := .agg (idc ((bid (I k)).toNat : Int) ++ tmc (T k)).toArray) rfl (by kernel_rfl) (by kernel_rfl) (by kernel_rfl) (fun _ _ _ h => h) (Or.inl ⟨by rfl, fun w' hS' => ?_⟩) ⟨h3.c0, h3.c1⟩ ?_
          · have hS1 := hS'.1
            have hS2 := hS'.2
            go_simp
          simp only [Act.put, List.setIfInBounds_toArray, List.set_cons_zero, List.set_cons_succ]
          refine wpAnyH_ready (rs := [12]) (by kernel_rfl) (by simp) (AllReadyH.cons (o := { dst := some 50, op := .buildSlice 25 1 #[(0, .tmp 49)], type := 25, pos := _, after := _, guard := none }) rfl (fun K hK => ?_) AllReadyH.nil)
          refine step_buildSlice (by rfl) 49 (by rfl) (idc ((bid (I k)).toNat : Int) ++ tmc (T k)).toArray (by rfl) (pcs_size (peer I T k)) ?_
          have hU := h3.below ((Below.refl _ w3).alloc (Nat.le_refl _) (.cells (idc ((bid (I k)).toNat : Int) ++ tmc (T k)).toArray 35))
          have hUn := heap_alloc_new w3 (.cells (idc ((bid (I k)).toNat : Int) ++ tmc (T k)).toArray 35)
          refine hK.out _ _ ⟨hU.c0, hU.c1⟩ (fun _ => ?_)
          clear hK K
          simp only [Act.put, List.setIfInBounds_toArray, List.set_cons_zero, List.set_cons_succ]
          refine wpAnyH_ready (rs := [13]) (by kernel_rfl) (by simp) (AllReadyH.cons (o := { dst := some 51, op := .call { callee := .builtin .append, args := #[.tmp 38, .tmp 50], argTypes := #[25, 25] }, type := 25, pos := _, after := _, guard := none }) rfl (fun K hK => ?_) AllReadyH.nil)
          refine step_append_room (by rfl) (.tmp 38) (.tmp 50) 25 (by rfl) 35 i0 67 Yba.underlying25 H5.out.1 H5.out.2.2.1 w.heap.size 0 k len0 (by rfl) ⟨w3.heap.size, 0, none⟩ 1 1 (pcs (peer I T k)) (by rfl) (by rw [pcs_length]) (World.news_of_block (cs := (pcs (peer I T k)).toArray) (t := 35) (fr := (0, 0)) hUn) (pcs_one _) (by omega) (by rw [pcs_length]; exact hU.built.spare hlk) ?_
          refine hK.out _ _ ⟨cell_far hU.c0 ne0, cell_far hU.c1 ne1⟩ (fun hH => ?_)
          clear hK K
          simp only [Act.put, List.setIfInBounds_toArray, List.set_cons_zero, List.set_cons_succ]
          obtain ⟨bY, HZ⟩ := inv_step hU hrb hlk
          obtain ⟨Y, hY⟩ : ∃ Y, (w3.alloc (.cells (idc ((bid (I k)).toNat : Int) ++ tmc (T k)).toArray 35)).setCells w.heap.size (0 + k * 67) (pcs (peer I T k)) = Y := ⟨_, rfl⟩
          have cH := hH.1
          have cH' := hH.2
          rw [hY] at bY HZ cH cH' ⊢
          have cY := bY.cell
          have fY := bY.frozen
          clear hY hU hUn hH
          refine wpAnyH_ready (rs := [14]) (by kernel_rfl) (by simp) (AllReadyH.cons (o := { dst := none, op := .store 25 (.tmp 12) (.tmp 51), type := 0, pos := _, after := _, guard := none }) rfl (fun K hK => ?_) AllReadyH.nil)
          go_simp
          refine hK.out _ _ ⟨(World.cell?_setCell_far _ _ _ _ (by show rb ≠ b0; omega)).trans cH, (World.cell?_setCell_far _ _ _ _ (by show rb ≠ b1; omega)).trans cH'⟩ (fun _ => ?_)
          clear hK K
          refine wpAnyH_done (by kernel_rfl) ?_ _
          have R : Hid (LInv w rb len0 (k + 1) I T (Y.setCell ⟨rb, 0, none⟩ (.slice (some ⟨w.heap.size, 0, none⟩) (k + 1) len0))) := HZ
          clear HZ bY cY fY cH cH' hi0 hi1 l1 l2 l3 l4 l5 l6
          go_wp2
          go_roundw
          case rel => exact ⟨k + 1, by omega, by go_num, R.out⟩
          case measure => simp [intOf]; omega
        · go_simp
          refine (at_peer _ _ hi1.1 hi1.2).mono ?_
          rintro e w3 ⟨rfl, hb3⟩
          have h3 := h2.below hb3
          refine hK.out _ _ ⟨h3.c0, h3.c1⟩ (fun _ => ?_)
          clear hK K hb3
          refine wpAnyH_take (i := 11) (oi := { dst := some 49, op := .build 35 #[(0, .tmp 43), (1, .tmp 48)], type := 35, pos := _, after := _, guard := none }) (v := .agg (idc ((bid (I k)).toNat : Int) ++ tmc (T k)).toArray) rfl (by kernel_rfl) (by kernel_rfl) (by kernel_rfl) (fun _ _ _ h => h) (Or.inl ⟨by rfl, fun w' hS' => ?_⟩) ⟨h3.c0, h3.c1⟩ ?_
          · have hS1 := hS'.1
            have hS2 := hS'.2
            go_simp
          simp only [Act.put, List.setIfInBounds_toArray, List.set_cons_zero, List.set_cons_succ]
          refine wpAnyH_ready (rs := [0, 12]) (by kernel_rfl) (by simp) (AllReadyH.cons (o := { dst := some 38, op := .load 25 (.tmp 12), type := 25, pos := _, after := _, guard := none }) rfl (fun K hK => ?_) (AllReadyH.cons (o := { dst := some 50, op := .buildSlice 25 1 #[(0, .tmp 49)], type := 25, pos := _, after := _, guard := none }) rfl (fun K hK => ?_) AllReadyH.nil))
          · refine step_load (by rfl) 12 (by rfl) rb (by rfl) (.slice (some ⟨w.heap.size, 0, none⟩) k len0) h3.box.cell ?_
            refine hK.out _ _ ⟨h3.c0, h3.c1⟩ (fun _ => ?_)
            clear hK K
            simp only [Act.put, List.setIfInBounds_toArray, List.set_cons_zero, List.set_cons_succ]
            refine wpAnyH_ready (rs := [12]) (by kernel_rfl) (by simp) (AllReadyH.cons (o := { dst := some 50, op := .buildSlice 25 1 #[(0, .tmp 49)], type := 25, pos := _, after := _, guard := none }) rfl (fun K hK => ?_) AllReadyH.nil)
            refine step_buildSlice (by rfl) 49 (by rfl) (idc ((bid (I k)).toNat : Int) ++ tmc (T k)).toArray (by rfl) (pcs_size (peer I T k)) ?_
            have hU := h3.below ((Below.refl _ w3).alloc (Nat.le_refl _) (.cells (idc ((bid (I k)).toNat : Int) ++ tmc (T k)).toArray 35))
            have hUn := heap_alloc_new w3 (.cells (idc ((bid (I k)).toNat : Int) ++ tmc (T k)).toArray 35)
            refine hK.out _ _ ⟨hU.c0, hU.c1⟩ (fun _ => ?_)
            clear hK K
            simp only [Act.put, List.setIfInBounds_toArray, List.set_cons_zero, List.set_cons_succ]
            refine wpAnyH_ready (rs := [13]) (by kernel_rfl) (by simp) (AllReadyH.cons (o := { dst := some 51, op := .call { callee := .builtin .append, args := #[.tmp 38, .tmp 50], argTypes := #[25, 25] }, type := 25, pos := _, after := _, guard := none }) rfl (fun K hK => ?_) AllReadyH.nil)
            refine step_append_room (by rfl) (.tmp 38) (.tmp 50) 25 (by rfl) 35 i0 67 Yba.underlying25 H5.out.1 H5.out.2.2.1 w.heap.size 0 k len0 (by rfl) ⟨w3.heap.size, 0, none⟩ 1 1 (pcs (peer I T k)) (by rfl) (by rw [pcs_length]) (World.news_of_block (cs := (pcs (peer I T k)).toArray) (t := 35) (fr := (0, 0)) hUn) (pcs_one _) (by omega) (by rw [pcs_length]; exact hU.built.spare hlk) ?_
            refine hK.out _ _ ⟨cell_far hU.c0 ne0, cell_far hU.c1 ne1⟩ (fun hH => ?_)
            clear hK K
            simp only [Act.put, List.setIfInBounds_toArray, List.set_cons_zero, List.set_cons_succ]
            obtain ⟨bY, HZ⟩ := inv_step hU hrb hlk
            obtain ⟨Y, hY⟩ : ∃ Y, (w3.alloc (.cells (idc ((bid (I k)).toNat : Int) ++ tmc (T k)).toArray 35)).setCells w.heap.size (0 + k * 67) (pcs (peer I T k)) = Y := ⟨_, rfl⟩
            have cH := hH.1
            have cH' := hH.2
            rw [hY] at bY HZ cH cH' ⊢
            have cY := bY.cell
            have fY := bY.frozen
            clear hY hU hUn hH
            refine wpAnyH_ready (rs := [14]) (by kernel_rfl) (by simp) (AllReadyH.cons (o := { dst := none, op := .store 25 (.tmp 12) (.tmp 51), type := 0, pos := _, after := _, guard := none }) rfl (fun K hK => ?_) AllReadyH.nil)
            go_simp
            refine hK.out _ _ ⟨(World.cell?_setCell_far _ _ _ _ (by show rb ≠ b0; omega)).trans cH, (World.cell?_setCell_far _ _ _ _ (by show rb ≠ b1; omega)).trans cH'⟩ (fun _ => ?_)
            clear hK K
            refine wpAnyH_done (by kernel_rfl) ?_ _
            have R : Hid (LInv w rb len0 (k + 1) I T (Y.setCell ⟨rb, 0, none⟩ (.slice (some ⟨w.heap.size, 0, none⟩) (k + 1) len0))) := HZ
            clear HZ bY cY fY cH cH' hi0 hi1 l1 l2 l3 l4 l5 l6
            go_wp2
            go_roundw
            case rel => exact ⟨k + 1, by omega, by go_num, R.out⟩
            case measure => simp [intOf]; omega
          · refine step_buildSlice (by rfl) 49 (by rfl) (idc ((bid (I k)).toNat : Int) ++ tmc (T k)).toArray (by rfl) (pcs_size (peer I T k)) ?_
            have hU := h3.below ((Below.refl _ w3).alloc (Nat.le_refl _) (.cells (idc ((bid (I k)).toNat : Int) ++ tmc (T k)).toArray 35))
            have hUn := heap_alloc_new w3 (.cells (idc ((bid (I k)).toNat : Int) ++ tmc (T k)).toArray 35)
            refine hK.out _ _ ⟨hU.c0, hU.c1⟩ (fun _ => ?_)
            clear hK K
            simp only [Act.put, List.setIfInBounds_toArray, List.set_cons_zero, List.set_cons_succ]
            refine wpAnyH_ready (rs := [0]) (by kernel_rfl) (by simp) (AllReadyH.cons (o := { dst := some 38, op := .load 25 (.tmp 12), type := 25, pos := _, after := _, guard := none }) rfl (fun K hK => ?_) AllReadyH.nil)
            refine step_load (by rfl) 12 (by rfl) rb (by rfl) (.slice (some ⟨w.heap.size, 0, none⟩) k len0) hU.box.cell ?_
            refine hK.out _ _ ⟨hU.c0, hU.c1⟩ (fun _ => ?_)
            clear hK K
            simp only [Act.put, List.setIfInBounds_toArray, List.set_cons_zero, List.set_cons_succ]
            refine wpAnyH_ready (rs := [13]) (by kernel_rfl) (by simp) (AllReadyH.cons (o := { dst := some 51, op := .call { callee := .builtin .append, args := #[.tmp 38, .tmp 50], argTypes := #[25, 25] }, type := 25, pos := _, after := _, guard := none }) rfl (fun K hK => ?_) AllReadyH.nil)
            refine step_append_room (by rfl) (.tmp 38) (.tmp 50) 25 (by rfl) 35 i0 67 Yba.underlying25 H5.out.1 H5.out.2.2.1 w.heap.size 0 k len0 (by rfl) ⟨w3.heap.size, 0, none⟩ 1 1 (pcs (peer I T k)) (by rfl) (by rw [pcs_length]) (World.news_of_block (cs := (pcs (peer I T k)).toArray) (t := 35) (fr := (0, 0)) hUn) (pcs_one _) (by omega) (by rw [pcs_length]; exact hU.built.spare hlk) ?_
            refine hK.out _ _ ⟨cell_far hU.c0 ne0, cell_far hU.c1 ne1⟩ (fun hH => ?_)
            clear hK K
            simp only [Act.put, List.setIfInBounds_toArray, List.set_cons_zero, List.set_cons_succ]
            obtain ⟨bY, HZ⟩ := inv_step hU hrb hlk
            obtain ⟨Y, hY⟩ : ∃ Y, (w3.alloc (.cells (idc ((bid (I k)).toNat : Int) ++ tmc (T k)).toArray 35)).setCells w.heap.size (0 + k * 67) (pcs (peer I T k)) = Y := ⟨_, rfl⟩
            have cH := hH.1
            have cH' := hH.2
            rw [hY] at bY HZ cH cH' ⊢
            have cY := bY.cell
            have fY := bY.frozen
            clear hY hU hUn hH
            refine wpAnyH_ready (rs := [14]) (by kernel_rfl) (by simp) (AllReadyH.cons (o := { dst := none, op := .store 25 (.tmp 12) (.tmp 51), type := 0, pos := _, after := _, guard := none }) rfl (fun K hK => ?_) AllReadyH.nil)
            go_simp
            refine hK.out _ _ ⟨(World.cell?_setCell_far _ _ _ _ (by show rb ≠ b0; omega)).trans cH, (World.cell?_setCell_far _ _ _ _ (by show rb ≠ b1; omega)).trans cH'⟩ (fun _ => ?_)
            clear hK K
            refine wpAnyH_done (by kernel_rfl) ?_ _
            have R : Hid (LInv w rb len0 (k + 1) I T (Y.setCell ⟨rb, 0, none⟩ (.slice (some ⟨w.heap.size, 0, none⟩) (k + 1) len0))) := HZ
            clear HZ bY cY fY cH cH' hi0 hi1 l1 l2 l3 l4 l5 l6
            go_wp2
            go_roundw
            case rel => exact ⟨k + 1, by omega, by go_num, R.out⟩
            case measure => simp [intOf]; omega
    · obtain rfl : k = len0 := by omega
      clear hI hT V0 V1
      obtain ⟨q, hq⟩ : ∃ q : Nat, m % 8 + 1 = (q : Int) := ⟨(m % 8 + 1).toNat, by omega⟩
      have q0 : 1 ≤ q := by omega
      have q1 : q ≤ 8 := by omega
      have HL : Hid (LInv w rb k k I T wr) := hinv
      have HQ : Hid (m % 8 + 1 = (q : Int)) := hq
      clear hinv hq
      go_wp2_with fail
      rw [HQ.out]
      refine (id_peer x wr x0 x1).mono ?_
      rintro e w5 ⟨rfl, hb5⟩
      go_wp2_with fail
      refine (at_peer s w5 s0 s1).mono ?_
      rintro e w6 ⟨rfl, hb6⟩
      have hb56 : Below wr.heap.size wr w6 := hb5.trans (hb6.mono hb5.size)
      have bx : Boxed w6 rb 25 (.slice (some ⟨w.heap.size, 0, none⟩) k k) := (hb56.block _ HL.out.box.lt).trans HL.out.box
      have HB6 : Hid (Below w.heap.size w w6) := HL.out.bel.trans (hb56.mono HL.out.bel.size)
      have HBt : Hid (Built w6 w.heap.size k k I T) := HL.out.built.below hb56
      clear hb5 hb6 hb56 HL
      go_wp2_with fail
      refine (add_peer rb w.heap.size k q (peer I T) (bid x) s w6 bx.cell bx.frozen (by omega) HBt.out.cells (by omega) q0 q1).mono ?_
      rintro e w7 ⟨rfl, hp⟩
      obtain ⟨g, cap, m', f, cG, hm', hg, hcs, hfm, hbl⟩ := hp
      have HC : Hid (∀ j, j < m' + 1 → w7.rangeAt g (j * 67) (pcs (f j))) := hcs
      have HF : Hid (f m' = (bid x, s)) := hfm
      have HB7 : Hid (Below w.heap.size w w7) := HB6.out.trans (hbl.mono (by omega))
      have HG : Hid (g < w7.heap.size) := hg
      clear hcs hfm hbl bx HBt HB6 hg
      go_wp2_with fail
      go_region_held3 (fun w' => w'.cell? ⟨rb, 0, none⟩ = some (.slice (some ⟨g, 0, none⟩) (m' + 1) cap)) (go_keep)
        (first
          | (go_at_call 5; refine (id_peer _ _ x0 x1).mono ?_; rintro e w8 ⟨rfl, hb8⟩; have d8 := cell_later hb8 (a := ⟨rb, 0, none⟩) (v := .slice (some ⟨g, 0, none⟩) (m' + 1) cap) cG; have HB8 : Hid (Below w7.heap.size w7 w8) := (Below.refl _ w7).drew.trans hb8; clear hb8)
          | (go_at_call 6; refine (at_peer _ _ s0 s1).mono ?_; rintro e w9 ⟨rfl, hb9⟩; have d9 := cell_later hb9 d8; have HB9 : Hid (Below w7.heap.size w7 w9) := HB8.out.trans (hb9.mono HB8.out.size); clear hb9 HB8)
          | (go_at_call 7; refine (has_last g cap m' f (bid x) s w9 (Nat.lt_of_lt_of_le HG.out HB9.out.size) (fun j hj i v hv => cell_later HB9.out (HC.out j hj i v hv)) HF.out hm').mono ?_; rintro e w10 ⟨rfl, hb10⟩; have d10 := cell_later hb10 d9; have HB10 : Hid (Below w.heap.size w w10) := HB7.out.trans ((HB9.out.trans (hb10.mono HB9.out.size)).mono HB7.out.size); clear hb10))
      go_wp2
      go_ret
      exact ⟨rfl, HB10.out⟩
set_option maxRecDepth 100000 in
set_option maxHeartbeats 2000000 in
theorem ath_B (a0 a1 : Option Addr) (len0 cap0 len1 cap1 : Nat) (I T : Nat → Int) (x s m : Int) (w : World) (hI : ∀ i, 0 ≤ I i ∧ I i ≤ 255) (hT : ∀ i, -2147483648 ≤ T i ∧ T i ≤ 2147483647) (x0 : 0 ≤ x) (x1 : x ≤ 255) (s0 : -2147483648 ≤ s) (s1 : s ≤ 2147483647) (m0 : 0 ≤ m) (m1 : m ≤ 255)
    (hl0 : len0 ≤ 1024) (hl1 : len1 ≤ 1024) (hlt : len1 < len0) (V0 : View w a0 .u8 len1 I) (V1 : View w a1 .i32 len1 T) :
    Calls Yba.prog 4 #[.slice a0 len0 cap0, .slice a1 len1 cap1, .int .u8 x, .int .i32 s, .int .u8 m] w fun e w' => e = .returned (.bool true) ∧ Below w.heap.size w w' := by
  obtain ⟨i0, hi, hz0, hz1, hz2⟩ := info_parts info35'
  have H5 : Hid (Yba.prog.info? 35 = some i0 ∧ i0.zero = some (.agg z35) ∧ i0.size = 67 ∧ i0.bytes = 88) := ⟨hi, hz0, hz1, hz2⟩
  clear hi hz0 hz1 hz2
  go_enter Yba.func4, Yba.ntmps4
  go_wp2_with (at_make; refine wpList_make_own _ rfl _ _ 25 rfl w.heap.size 35 i0 (.agg z35) 67 Yba.underlying25 H5.out.1 H5.out.2.1 H5.out.2.2.1 .i64 .i64 _ len1 rfl rfl (by omega) (by rw [H5.out.2.2.2]; omega) (by unfold maxLen; omega) (Nat.le_refl _) ?_; intro w1 hown hgrow)
  have hB1 : Below w.heap.size w w1 := (Below.refl _ w).grown hgrow (Nat.le_refl _) (fun k e => by cases e)
  have hbt : Built w1 w.heap.size len1 0 I T := ⟨there_made hown, fun j hj => absurd hj (by omega)⟩
  have hg1 : w.heap.size < w1.heap.size := by
    rcases hown.2 with ⟨e, _⟩ | ⟨g', cap, cur, e, _, hb, _⟩
    · cases e
    · cases e; exact (Array.getElem?_eq_some_iff.1 hb).1
  clear hown hgrow
  obtain ⟨rb, hrbd⟩ : ∃ rb, rb = w1.heap.size := ⟨_, rfl⟩
  rw [← hrbd]
  have hrb : w.heap.size < rb := by omega
  obtain ⟨W1, hW1⟩ : ∃ W1, w1.alloc (.cells #[.slice (some ⟨w.heap.size, 0, none⟩) 0 len1] 25) = W1 := ⟨_, rfl⟩
  have hL0 : LInv w rb len1 0 I T W1 := by
    rw [← hW1, hrbd]
    exact ⟨Boxed.new w1 25 _, hbt.alloc _, hB1.alloc (by omega) _⟩
  rw [hW1]
  clear hW1 hrbd hbt hB1 hg1
  go_loopw [13] (fun i wr => ∃ k : Nat, k ≤ len1 ∧ i = .int .i64 k ∧ LInv w rb len1 k I T wr) (fun i _ => len1 - (intOf i).toNat)
  case atStart => exact ⟨0, Nat.zero_le _, rfl, hL0⟩
  case round =>
    obtain ⟨k, hk, rfl, hinv⟩ := hrel
    clear hL0
    by_cases hlk : k < len1
    · obtain ⟨b0, f0, rfl, hb0, hc0⟩ := V0 (by omega)
      obtain ⟨b1, f1, rfl, hb1, hc1⟩ := V1 (by omega)
      have hD : Inv w rb len1 k I T b0 f0 b1 f1 wr.drew := Inv.below ⟨hinv.box, hinv.built, hinv.bel, (hinv.bel.cell (p := ⟨b0, f0 + k, none⟩) hb0).trans (hc0 k hlk), (hinv.bel.cell (p := ⟨b1, f1 + k, none⟩) hb1).trans (hc1 k hlk)⟩ (Below.refl _ wr).drew
      have ne0 : b0 ≠ w.heap.size := by omega
      have ne1 : b1 ≠ w.heap.size := by omega
      have hi0 := hI k
      have hi1 := hT k
      have l1 := idc_length
      have l2 := tmc_length
      have l3 := zero35
      have l4 := z35_size
      have l5 := fold64
      have l6 := fold67
      have u0 : (0 : Int) ≤ (k : Int) := by omega
      have u1 : (k : Int) < (len0 : Int) := by omega
      have u2 : (k : Int) < (len1 : Int) := by omega
      clear hinv hc0 hc1 V0 V1 hI hT
      go_wp2
      refine wp_region_held_drew (S := fun w' => w'.cell? ⟨b0, f0 + k, none⟩ = some (.int .u8 (I k)) ∧ w'.cell? ⟨b1, f1 + k, none⟩ = some (.int .i32 (T k))) (by kernel_rfl) ⟨hD.c0, hD.c1⟩ (fun hHeld => ?_)
      refine wpAnyH_take (i := 1) (oi := { dst := some 39, op := .move (.tmp 0), type := 22, pos := _, after := _, guard := none }) (v := .slice (some ⟨b0, f0, none⟩) len0 cap0) rfl (by kernel_rfl) (by kernel_rfl) (by kernel_rfl) (fun _ _ _ h => h) (Or.inl ⟨by rfl, fun w' hS' => ?_⟩) hHeld ?_
      · have hS1 := hS'.1
        have hS2 := hS'.2
        go_simp
      simp only [Act.put, List.setIfInBounds_toArray, List.set_cons_zero, List.set_cons_succ]
      refine wpAnyH_take (i := 2) (oi := { dst := some 40, op := .move (.tmp 13), type := 3, pos := _, after := _, guard := none }) (v := .int .i64 k) rfl (by kernel_rfl) (by kernel_rfl) (by kernel_rfl) (fun _ _ _ h => h) (Or.inl ⟨by rfl, fun w' hS' => ?_⟩) hHeld ?_
      · have hS1 := hS'.1
        have hS2 := hS'.2
        go_simp
      simp only [Act.put, List.setIfInBounds_toArray, List.set_cons_zero, List.set_cons_succ]
      refine wpAnyH_take (i := 3) (oi := { dst := some 41, op := .indexAddr 22 (.tmp 39) (.tmp 40), type := 0, pos := _, after := _, guard := none }) (v := .pointer (some ⟨b0, f0 + k, none⟩)) rfl (by kernel_rfl) (by kernel_rfl) (by kernel_rfl) (fun _ _ _ h => h) (Or.inl ⟨by rfl, fun w' hS' => ?_⟩) hHeld ?_
      · have hS1 := hS'.1
        have hS2 := hS'.2
        go_simp
      simp only [Act.put, List.setIfInBounds_toArray, List.set_cons_zero, List.set_cons_succ]
      refine wpAnyH_take (i := 4) (oi := { dst := some 42, op := .load 5 (.tmp 41), type := 5, pos := _, after := _, guard := none }) (v := .int .u8 (I k)) rfl (by kernel_rfl) (by kernel_rfl) (by kernel_rfl) (fun _ _ _ h => h) (Or.inl ⟨by rfl, fun w' hS' => ?_⟩) hHeld ?_
      · have hS1 := hS'.1
        have hS2 := hS'.2
        go_simp
      simp only [Act.put, List.setIfInBounds_toArray, List.set_cons_zero, List.set_cons_succ]
      refine wpAnyH_take (i := 6) (oi := { dst := some 44, op := .move (.tmp 1), type := 23, pos := _, after := _, guard := none }) (v := .slice (some ⟨b1, f1, none⟩) len1 cap1) rfl (by kernel_rfl) (by kernel_rfl) (by kernel_rfl) (fun _ _ _ h => h) (Or.inl ⟨by rfl, fun w' hS' => ?_⟩) hHeld ?_
      · have hS1 := hS'.1
        have hS2 := hS'.2
        go_simp
      simp only [Act.put, List.setIfInBounds_toArray, List.set_cons_zero, List.set_cons_succ]
      refine wpAnyH_take (i := 7) (oi := { dst := some 45, op := .move (.tmp 13), type := 3, pos := _, after := _, guard := none }) (v := .int .i64 k) rfl (by kernel_rfl) (by kernel_rfl) (by kernel_rfl) (fun _ _ _ h => h) (Or.inl ⟨by rfl, fun w' hS' => ?_⟩) hHeld ?_
      · have hS1 := hS'.1
        have hS2 := hS'.2
        go_simp
      simp only [Act.put, List.setIfInBounds_toArray, List.set_cons_zero, List.set_cons_succ]
      refine wpAnyH_take (i := 8) (oi := { dst := some 46, op := .indexAddr 23 (.tmp 44) (.tmp 45), type := 0, pos := _, after := _, guard := none }) (v := .pointer (some ⟨b1, f1 + k, none⟩)) rfl (by kernel_rfl) (by kernel_rfl) (by kernel_rfl) (fun _ _ _ h => h) (Or.inl ⟨by rfl, fun w' hS' => ?_⟩) hHeld ?_
      · have hS1 := hS'.1
        have hS2 := hS'.2
        go_simp
      simp only [Act.put, List.setIfInBounds_toArray, List.set_cons_zero, List.set_cons_succ]
      refine wpAnyH_take (i := 9) (oi := { dst := some 47, op := .load 21 (.tmp 46), type := 21, pos := _, after := _, guard := none }) (v := .int .i32 (T k)) rfl (by kernel_rfl) (by kernel_rfl) (by kernel_rfl) (fun _ _ _ h => h) (Or.inl ⟨by rfl, fun w' hS' => ?_⟩) hHeld ?_
      · have hS1 := hS'.1
        have hS2 := hS'.2
        go_simp
      simp only [Act.put, List.setIfInBounds_toArray, List.set_cons_zero, List.set_cons_succ]
      refine wpAnyH_ready (rs := [0, 5]) (by kernel_rfl) (by simp) (AllReadyH.cons (o := { dst := some 38, op := .load 25 (.tmp 12), type := 25, pos := _, after := _, guard := none }) rfl (fun K hK => ?_) (AllReadyH.cons (o := { dst := some 43, op := .call { callee := .value (.func 5), args := #[.tmp 42], argTypes := #[5] }, type := 27, pos := _, after := _, guard := none }) rfl (fun K hK => ?_) AllReadyH.nil))
      · refine step_load (by rfl) 12 (by rfl) rb (by rfl) (.slice (some ⟨w.heap.size, 0, none⟩) k len1) hD.box.cell ?_
        refine hK.out _ _ ⟨hD.c0, hD.c1⟩ (fun _ => ?_)
        clear hK K
        simp only [Act.put, List.setIfInBounds_toArray, List.set_cons_zero, List.set_cons_succ]
        refine wpAnyH_ready (rs := [5]) (by kernel_rfl) (by simp) (AllReadyH.cons (o := { dst := some 43, op := .call { callee := .value (.func 5), args := #[.tmp 42], argTypes := #[5] }, type := 27, pos := _, after := _, guard := none }) rfl (fun K hK => ?_) AllReadyH.nil)
        go_simp
        refine (id_peer _ _ hi0.1 hi0.2).mono ?_
        rintro e w2 ⟨rfl, hb2⟩
        have h2 := hD.below hb2
        refine hK.out _ _ ⟨h2.c0, h2.c1⟩ (fun _ => ?_)
        clear hK K hb2
        refine wpAnyH_ready (rs := [10]) (by kernel_rfl) (by simp) (AllReadyH.cons (o := { dst := some 48, op := .call { callee := .value (.func 6), args := #[.tmp 47], argTypes := #[21] }, type := 32, pos := _, after := _, guard := none }) rfl (fun K hK => ?_) AllReadyH.nil)
        go_simp
        refine (at_peer _ _ hi1.1 hi1.2).mono ?_
        rintro e w3 ⟨rfl, hb3⟩
        have h3 := h2.below hb3
        refine hK.out _ _ ⟨h3.c0, h3.c1⟩ (fun _ => ?_)
        clear hK K hb3
        refine wpAnyH_take (i := 11) (oi := { dst := some 49, op := .build 35 #[(0, .tmp 43), (1, .tmp 48)], type := 35, pos := _, after := _, guard := none }) (v := .agg (idc ((bid (I k)).toNat : Int) ++ tmc (T k)).toArray) rfl (by kernel_rfl) (by kernel_rfl) (by kernel_rfl) (fun _ _ _ h => h) (Or.inl ⟨by rfl, fun w' hS' => ?_⟩) ⟨h3.c0, h3.c1⟩ ?_
        · have hS1 := hS'.1
          have hS2 := hS'.2
          go_simp
        simp only [Act.put, List.setIfInBounds_toArray, List.set_cons_zero, List.set_cons_succ]
        refine wpAnyH_ready (rs := [12]) (by kernel_rfl) (by simp) (AllReadyH.cons (o := { dst := some 50, op := .buildSlice 25 1 #[(0, .tmp 49)], type := 25, pos := _, after := _, guard := none }) rfl (fun K hK => ?_) AllReadyH.nil)
        refine step_buildSlice (by rfl) 49 (by rfl) (idc ((bid (I k)).toNat : Int) ++ tmc (T k)).toArray (by rfl) (pcs_size (peer I T k)) ?_
        have hU := h3.below ((Below.refl _ w3).alloc (Nat.le_refl _) (.cells (idc ((bid (I k)).toNat : Int) ++ tmc (T k)).toArray 35))
        have hUn := heap_alloc_new w3 (.cells (idc ((bid (I k)).toNat : Int) ++ tmc (T k)).toArray 35)
        refine hK.out _ _ ⟨hU.c0, hU.c1⟩ (fun _ => ?_)
        clear hK K
        simp only [Act.put, List.setIfInBounds_toArray, List.set_cons_zero, List.set_cons_succ]
        refine wpAnyH_ready (rs := [13]) (by kernel_rfl) (by simp) (AllReadyH.cons (o := { dst := some 51, op := .call { callee := .builtin .append, args := #[.tmp 38, .tmp 50], argTypes := #[25, 25] }, type := 25, pos := _, after := _, guard := none }) rfl (fun K hK => ?_) AllReadyH.nil)
        refine step_append_room (by rfl) (.tmp 38) (.tmp 50) 25 (by rfl) 35 i0 67 Yba.underlying25 H5.out.1 H5.out.2.2.1 w.heap.size 0 k len1 (by rfl) ⟨w3.heap.size, 0, none⟩ 1 1 (pcs (peer I T k)) (by rfl) (by rw [pcs_length]) (World.news_of_block (cs := (pcs (peer I T k)).toArray) (t := 35) (fr := (0, 0)) hUn) (pcs_one _) (by omega) (by rw [pcs_length]; exact hU.built.spare hlk) ?_
        refine hK.out _ _ ⟨cell_far hU.c0 ne0, cell_far hU.c1 ne1⟩ (fun hH => ?_)
        clear hK K
        simp only [Act.put, List.setIfInBounds_toArray, List.set_cons_zero, List.set_cons_succ]
        obtain ⟨bY, HZ⟩ := inv_step hU hrb hlk
        obtain ⟨Y, hY⟩ : ∃ Y, (w3.alloc (.cells (idc ((bid (I k)).toNat : Int) ++ tmc (T k)).toArray 35)).setCells w.heap.size (0 + k * 67) (pcs (peer I T k)) = Y := ⟨_, rfl⟩
        have cH := hH.1
        have cH' := hH.2
        rw [hY] at bY HZ cH cH' ⊢
        have cY := bY.cell
        have fY := bY.frozen
        clear hY hU hUn hH
        refine wpAnyH_ready (rs := [14]) (by kernel_rfl) (by simp) (AllReadyH.cons (o := { dst := none, op := .store 25 (.tmp 12) (.tmp 51), type := 0, pos := _, after := _, guard := none }) rfl (fun K hK => ?_) AllReadyH.nil)
        go_simp
        refine hK.out _ _ ⟨(World.cell?_setCell_far _ _ _ _ (by show rb ≠ b0; omega)).trans cH, (World.cell?_setCell_far _ _ _ _ (by show rb ≠ b1; omega)).trans cH'⟩ (fun _ => ?_)
        clear hK K
        refine wpAnyH_done (by kernel_rfl) ?_ _
        have R : Hid (LInv w rb len1 (k + 1) I T (Y.setCell ⟨rb, 0, none⟩ (.slice (some ⟨w.heap.size, 0, none⟩) (k + 1) len1))) := HZ
        clear HZ bY cY fY cH cH' hi0 hi1 l1 l2 l3 l4 l5 l6
        go_wp2
        go_roundw
        case rel => exact ⟨k + 1, by omega, by go_num, R.out⟩
        case measure => simp [intOf]; omega
      · go_simp
        refine (id_peer _ _ hi0.1 hi0.2).mono ?_
        rintro e w2 ⟨rfl, hb2⟩
        have h2 := hD.below hb2
        refine hK.out _ _ ⟨h2.c0, h2.c1⟩ (fun _ => ?_)
        clear hK K hb2
        refine wpAnyH_ready (rs := [0, 10]) (by kernel_rfl) (by simp) (AllReadyH.cons (o := { dst := some 38, op := .load 25 (.tmp 12), type := 25, pos := _, after := _, guard := none }) rfl (fun K hK => ?_) (AllReadyH.cons (o := { dst := some 48, op := .call { callee := .value (.func 6), args := #[.tmp 47], argTypes := #[21] }, type := 32, pos := _, after := _, guard := none }) rfl (fun K hK => ?_) AllReadyH.nil))
        · refine step_load (by rfl) 12 (by rfl) rb (by rfl) (.slice (some ⟨w.heap.size, 0, none⟩) k len1) h2.box.cell ?_
          refine hK.out _ _ ⟨h2.c0, h2.c1⟩ (fun _ => ?_)
          clear hK K
          simp only [Act.put, List.setIfInBounds_toArray, List.set_cons_zero, List.set_cons_succ]
          refine wpAnyH_ready (rs := [10]) (by kernel_rfl) (by simp) (AllReadyH.cons (o := { dst := some 48, op := .call { callee := .value (.func 6), args := #[.tmp 47], argTypes := #[21] }, type := 32, pos := _, after := _, guard := none }) rfl (fun K hK => ?_) AllReadyH.nil)
          go_simp
          refine (at_peer _ _ hi1.1 hi1.2).mono ?_
          rintro e w3 ⟨rfl, hb3⟩
          have h3 := h2.below hb3
          refine hK.out _ _ ⟨h3.c0, h3.c1⟩ (fun _ => ?_)
          clear hK K hb3
          refine wpAnyH_take (i := 11) (oi := { dst := some 49, op := .build 35 #[(0, .tmp 43), (1, .tmp 48)], type := 35, pos := _, after := _, guard := none }) (v := .agg (idc ((bid (I k)).toNat : Int) ++ tmc (T k)).toArray) rfl (by kernel_rfl) (by kernel_rfl) (by kernel_rfl) (fun _ _ _ h => h) (Or.inl ⟨by rfl, fun w' hS' => ?_⟩) ⟨h3.c0, h3.c1⟩ ?_
          · have hS1 := hS'.1
            have hS2 := hS'.2
            go_simp
          simp only [Act.put, List.setIfInBounds_toArray, List.set_cons_zero, List.set_cons_succ]
          refine wpAnyH_ready (rs := [12]) (by kernel_rfl) (by simp) (AllReadyH.cons (o := { dst := some 50, op := .buildSlice 25 1 #[(0, .tmp 49)], type := 25, pos := _, after := _, guard := none }) rfl (fun K hK => ?_) AllReadyH.nil)
          refine step_buildSlice (by rfl) 49 (by rfl) (idc ((bid (I k)).toNat : Int) ++ tmc (T k)).toArray (by rfl) (pcs_size (peer I T k)) ?_
          have hU := h3.below ((Below.refl _ w3).alloc (Nat.le_refl _) (.cells (idc ((bid (I k)).toNat : Int) ++ tmc (T k)).toArray 35))
          have hUn := heap_alloc_new w3 (.cells (idc ((bid (I k)).toNat : Int) ++ tmc (T k)).toArray 35)
          refine hK.out _ _ ⟨hU.c0, hU.c1⟩ (fun _ => ?_)
          clear hK K
          simp only [Act.put, List.setIfInBounds_toArray, List.set_cons_zero, List.set_cons_succ]
          refine wpAnyH_ready (rs := [13]) (by kernel_rfl) (by simp) (AllReadyH.cons (o := { dst := some 51, op := .call { callee := .builtin .append, args := #[.tmp 38, .tmp 50], argTypes := #[25, 25] }, type := 25, pos := _, after := _, guard := none }) rfl (fun K hK => ?_) AllReadyH.nil)
          refine step_append_room (by rfl) (.tmp 38) (.tmp 50) 25 (by rfl) 35 i0 67 Yba.underlying25 H5.out.1 H5.out.2.2.1 w.heap.size 0 k len1 (by rfl) ⟨w3.heap.size, 0, none⟩ 1 1 (pcs (peer I T k)) (by rfl) (by rw [pcs_length]) (World.news_of_block (cs := (pcs (peer I T k)).toArray) (t := 35) (fr := (0, 0)) hUn) (pcs_one _) (by omega) (by rw [pcs_length]; exact hU.built.spare hlk) ?_
          refine hK.out _ _ ⟨cell_far hU.c0 ne0, cell_far hU.c1 ne1⟩ (fun hH => ?_)
          clear hK K
          simp only [Act.put, List.setIfInBounds_toArray, List.set_cons_zero, List.set_cons_succ]
          obtain ⟨bY, HZ⟩ := inv_step hU hrb hlk
          obtain ⟨Y, hY⟩ : ∃ Y, (w3.alloc (.cells (idc ((bid (I k)).toNat : Int) ++ tmc (T k)).toArray 35)).setCells w.heap.size (0 + k * 67) (pcs (peer I T k)) = Y := ⟨_, rfl⟩
          have cH := hH.1
          have cH' := hH.2
          rw [hY] at bY HZ cH cH' ⊢
          have cY := bY.cell
          have fY := bY.frozen
          clear hY hU hUn hH
          refine wpAnyH_ready (rs := [14]) (by kernel_rfl) (by simp) (AllReadyH.cons (o := { dst := none, op := .store 25 (.tmp 12) (.tmp 51), type := 0, pos := _, after := _, guard := none }) rfl (fun K hK => ?_) AllReadyH.nil)
          go_simp
          refine hK.out _ _ ⟨(World.cell?_setCell_far _ _ _ _ (by show rb ≠ b0; omega)).trans cH, (World.cell?_setCell_far _ _ _ _ (by show rb ≠ b1; omega)).trans cH'⟩ (fun _ => ?_)
          clear hK K
          refine wpAnyH_done (by kernel_rfl) ?_ _
          have R : Hid (LInv w rb len1 (k + 1) I T (Y.setCell ⟨rb, 0, none⟩ (.slice (some ⟨w.heap.size, 0, none⟩) (k + 1) len1))) := HZ
          clear HZ bY cY fY cH cH' hi0 hi1 l1 l2 l3 l4 l5 l6
          go_wp2
          go_roundw
          case rel => exact ⟨k + 1, by omega, by go_num, R.out⟩
          case measure => simp [intOf]; omega
        · go_simp
          refine (at_peer _ _ hi1.1 hi1.2).mono ?_
          rintro e w3 ⟨rfl, hb3⟩
          have h3 := h2.below hb3
          refine hK.out _ _ ⟨h3.c0, h3.c1⟩ (fun _ => ?_)
          clear hK K hb3
          refine wpAnyH_take (i := 11) (oi := { dst := some 49, op := .build 35 #[(0, .tmp 43), (1, .tmp 48)], type := 35, pos := _, after := _, guard := none }) (v := .agg (idc ((bid (I k)).toNat : Int) ++ tmc (T k)).toArray) rfl (by kernel_rfl) (by kernel_rfl) (by kernel_rfl) (fun _ _ _ h => h) (Or.inl ⟨by rfl, fun w' hS' => ?_⟩) ⟨h3.c0, h3.c1⟩ ?_
          · have hS1 := hS'.1
            have hS2 := hS'.2
            go_simp
          simp only [Act.put, List.setIfInBounds_toArray, List.set_cons_zero, List.set_cons_succ]
          refine wpAnyH_ready (rs := [0, 12]) (by kernel_rfl) (by simp) (AllReadyH.cons (o := { dst := some 38, op := .load 25 (.tmp 12), type := 25, pos := _, after := _, guard := none }) rfl (fun K hK => ?_) (AllReadyH.cons (o := { dst := some 50, op := .buildSlice 25 1 #[(0, .tmp 49)], type := 25, pos := _, after := _, guard := none }) rfl (fun K hK => ?_) AllReadyH.nil))
          · refine step_load (by rfl) 12 (by rfl) rb (by rfl) (.slice (some ⟨w.heap.size, 0, none⟩) k len1) h3.box.cell ?_
            refine hK.out _ _ ⟨h3.c0, h3.c1⟩ (fun _ => ?_)
            clear hK K
            simp only [Act.put, List.setIfInBounds_toArray, List.set_cons_zero, List.set_cons_succ]
            refine wpAnyH_ready (rs := [12]) (by kernel_rfl) (by simp) (AllReadyH.cons (o := { dst := some 50, op := .buildSlice 25 1 #[(0, .tmp 49)], type := 25, pos := _, after := _, guard := none }) rfl (fun K hK => ?_) AllReadyH.nil)
            refine step_buildSlice (by rfl) 49 (by rfl) (idc ((bid (I k)).toNat : Int) ++ tmc (T k)).toArray (by rfl) (pcs_size (peer I T k)) ?_
            have hU := h3.below ((Below.refl _ w3).alloc (Nat.le_refl _) (.cells (idc ((bid (I k)).toNat : Int) ++ tmc (T k)).toArray 35))
            have hUn := heap_alloc_new w3 (.cells (idc ((bid (I k)).toNat : Int) ++ tmc (T k)).toArray 35)
            refine hK.out _ _ ⟨hU.c0, hU.c1⟩ (fun _ => ?_)
            clear hK K
            simp only [Act.put, List.setIfInBounds_toArray, List.set_cons_zero, List.set_cons_succ]
            refine wpAnyH_ready (rs := [13]) (by kernel_rfl) (by simp) (AllReadyH.cons (o := { dst := some 51, op := .call { callee := .builtin .append, args := #[.tmp 38, .tmp 50], argTypes := #[25, 25] }, type := 25, pos := _, after := _, guard := none }) rfl (fun K hK => ?_) AllReadyH.nil)
            refine step_append_room (by rfl) (.tmp 38) (.tmp 50) 25 (by rfl) 35 i0 67 Yba.underlying25 H5.out.1 H5.out.2.2.1 w.heap.size 0 k len1 (by rfl) ⟨w3.heap.size, 0, none⟩ 1 1 (pcs (peer I T k)) (by rfl) (by rw [pcs_length]) (World.news_of_block (cs := (pcs (peer I T k)).toArray) (t := 35) (fr := (0, 0)) hUn) (pcs_one _) (by omega) (by rw [pcs_length]; exact hU.built.spare hlk) ?_
            refine hK.out _ _ ⟨cell_far hU.c0 ne0, cell_far hU.c1 ne1⟩ (fun hH => ?_)
            clear hK K
            simp only [Act.put, List.setIfInBounds_toArray, List.set_cons_zero, List.set_cons_succ]
            obtain ⟨bY, HZ⟩ := inv_step hU hrb hlk
            obtain ⟨Y, hY⟩ : ∃ Y, (w3.alloc (.cells (idc ((bid (I k)).toNat : Int) ++ tmc (T k)).toArray 35)).setCells w.heap.size (0 + k * 67) (pcs (peer I T k)) = Y := ⟨_, rfl⟩
            have cH := hH.1
            have cH' := hH.2
            rw [hY] at bY HZ cH cH' ⊢
            have cY := bY.cell
            have fY := bY.frozen
            clear hY hU hUn hH
            refine wpAnyH_ready (rs := [14]) (by kernel_rfl) (by simp) (AllReadyH.cons (o := { dst := none, op := .store 25 (.tmp 12) (.tmp 51), type := 0, pos := _, after := _, guard := none }) rfl (fun K hK => ?_) AllReadyH.nil)
            go_simp
            refine hK.out _ _ ⟨(World.cell?_setCell_far _ _ _ _ (by show rb ≠ b0; omega)).trans cH, (World.cell?_setCell_far _ _ _ _ (by show rb ≠ b1; omega)).trans cH'⟩ (fun _ => ?_)
            clear hK K
            refine wpAnyH_done (by kernel_rfl) ?_ _
            have R : Hid (LInv w rb len1 (k + 1) I T (Y.setCell ⟨rb, 0, none⟩ (.slice (some ⟨w.heap.size, 0, none⟩) (k + 1) len1))) := HZ
            clear HZ bY cY fY cH cH' hi0 hi1 l1 l2 l3 l4 l5 l6
            go_wp2
            go_roundw
            case rel => exact ⟨k + 1, by omega, by go_num, R.out⟩
            case measure => simp [intOf]; omega
          · refine step_buildSlice (by rfl) 49 (by rfl) (idc ((bid (I k)).toNat : Int) ++ tmc (T k)).toArray (by rfl) (pcs_size (peer I T k)) ?_
            have hU := h3.below ((Below.refl _ w3).alloc (Nat.le_refl _) (.cells (idc ((bid (I k)).toNat : Int) ++ tmc (T k)).toArray 35))
            have hUn := heap_alloc_new w3 (.cells (idc ((bid (I k)).toNat : Int) ++ tmc (T k)).toArray 35)
            refine hK.out _ _ ⟨hU.c0, hU.c1⟩ (fun _ => ?_)
            clear hK K
            simp only [Act.put, List.setIfInBounds_toArray, List.set_cons_zero, List.set_cons_succ]
            refine wpAnyH_ready (rs := [0]) (by kernel_rfl) (by simp) (AllReadyH.cons (o := { dst := some 38, op := .load 25 (.tmp 12), type := 25, pos := _, after := _, guard := none }) rfl (fun K hK => ?_) AllReadyH.nil)
            refine step_load (by rfl) 12 (by rfl) rb (by rfl) (.slice (some ⟨w.heap.size, 0, none⟩) k len1) hU.box.cell ?_
            refine hK.out _ _ ⟨hU.c0, hU.c1⟩ (fun _ => ?_)
            clear hK K
            simp only [Act.put, List.setIfInBounds_toArray, List.set_cons_zero, List.set_cons_succ]
            refine wpAnyH_ready (rs := [13]) (by kernel_rfl) (by simp) (AllReadyH.cons (o := { dst := some 51, op := .call { callee := .builtin .append, args := #[.tmp 38, .tmp 50], argTypes := #[25, 25] }, type := 25, pos := _, after := _, guard := none }) rfl (fun K hK => ?_) AllReadyH.nil)
            refine step_append_room (by rfl) (.tmp 38) (.tmp 50) 25 (by rfl) 35 i0 67 Yba.underlying25 H5.out.1 H5.out.2.2.1 w.heap.size 0 k len1 (by rfl) ⟨w3.heap.size, 0, none⟩ 1 1 (pcs (peer I T k)) (by rfl) (by rw [pcs_length]) (World.news_of_block (cs := (pcs (peer I T k)).toArray) (t := 35) (fr := (0, 0)) hUn) (pcs_one _) (by omega) (by rw [pcs_length]; exact hU.built.spare hlk) ?_
            refine hK.out _ _ ⟨cell_far hU.c0 ne0, cell_far hU.c1 ne1⟩ (fun hH => ?_)
            clear hK K
            simp only [Act.put, List.setIfInBounds_toArray, List.set_cons_zero, List.set_cons_succ]
            obtain ⟨bY, HZ⟩ := inv_step hU hrb hlk
            obtain ⟨Y, hY⟩ : ∃ Y, (w3.alloc (.cells (idc ((bid (I k)).toNat : Int) ++ tmc (T k)).toArray 35)).setCells w.heap.size (0 + k * 67) (pcs (peer I T k)) = Y := ⟨_, rfl⟩
            have cH := hH.1
            have cH' := hH.2
            rw [hY] at bY HZ cH cH' ⊢
            have cY := bY.cell
            have fY := bY.frozen
            clear hY hU hUn hH
            refine wpAnyH_ready (rs := [14]) (by kernel_rfl) (by simp) (AllReadyH.cons (o := { dst := none, op := .store 25 (.tmp 12) (.tmp 51), type := 0, pos := _, after := _, guard := none }) rfl (fun K hK => ?_) AllReadyH.nil)
            go_simp
            refine hK.out _ _ ⟨(World.cell?_setCell_far _ _ _ _ (by show rb ≠ b0; omega)).trans cH, (World.cell?_setCell_far _ _ _ _ (by show rb ≠ b1; omega)).trans cH'⟩ (fun _ => ?_)
            clear hK K
            refine wpAnyH_done (by kernel_rfl) ?_ _
            have R : Hid (LInv w rb len1 (k + 1) I T (Y.setCell ⟨rb, 0, none⟩ (.slice (some ⟨w.heap.size, 0, none⟩) (k + 1) len1))) := HZ
            clear HZ bY cY fY cH cH' hi0 hi1 l1 l2 l3 l4 l5 l6
            go_wp2
            go_roundw
            case rel => exact ⟨k + 1, by omega, by go_num, R.out⟩
            case measure => simp [intOf]; omega
    · obtain rfl : k = len1 := by omega
      clear hI hT V0 V1
      obtain ⟨q, hq⟩ : ∃ q : Nat, m % 8 + 1 = (q : Int) := ⟨(m % 8 + 1).toNat, by omega⟩
      have q0 : 1 ≤ q := by omega
      have q1 : q ≤ 8 := by omega
      have HL : Hid (LInv w rb k k I T wr) := hinv
      have HQ : Hid (m % 8 + 1 = (q : Int)) := hq
      clear hinv hq
      go_wp2_with fail
      rw [HQ.out]
      refine (id_peer x wr x0 x1).mono ?_
      rintro e w5 ⟨rfl, hb5⟩
      go_wp2_with fail
      refine (at_peer s w5 s0 s1).mono ?_
      rintro e w6 ⟨rfl, hb6⟩
      have hb56 : Below wr.heap.size wr w6 := hb5.trans (hb6.mono hb5.size)
      have bx : Boxed w6 rb 25 (.slice (some ⟨w.heap.size, 0, none⟩) k k) := (hb56.block _ HL.out.box.lt).trans HL.out.box
      have HB6 : Hid (Below w.heap.size w w6) := HL.out.bel.trans (hb56.mono HL.out.bel.size)
      have HBt : Hid (Built w6 w.heap.size k k I T) := HL.out.built.below hb56
      clear hb5 hb6 hb56 HL
      go_wp2_with fail
      refine (add_peer rb w.heap.size k q (peer I T) (bid x) s w6 bx.cell bx.frozen (by omega) HBt.out.cells (by omega) q0 q1).mono ?_
      rintro e w7 ⟨rfl, hp⟩
      obtain ⟨g, cap, m', f, cG, hm', hg, hcs, hfm, hbl⟩ := hp
      have HC : Hid (∀ j, j < m' + 1 → w7.rangeAt g (j * 67) (pcs (f j))) := hcs
      have HF : Hid (f m' = (bid x, s)) := hfm
      have HB7 : Hid (Below w.heap.size w w7) := HB6.out.trans (hbl.mono (by omega))
      have HG : Hid (g < w7.heap.size) := hg
      clear hcs hfm hbl bx HBt HB6 hg
      go_wp2_with fail
      go_region_held3 (fun w' => w'.cell? ⟨rb, 0, none⟩ = some (.slice (some ⟨g, 0, none⟩) (m' + 1) cap)) (go_keep)
        (first
          | (go_at_call 5; refine (id_peer _ _ x0 x1).mono ?_; rintro e w8 ⟨rfl, hb8⟩; have d8 := cell_later hb8 (a := ⟨rb, 0, none⟩) (v := .slice (some ⟨g, 0, none⟩) (m' + 1) cap) cG; have HB8 : Hid (Below w7.heap.size w7 w8) := (Below.refl _ w7).drew.trans hb8; clear hb8)
          | (go_at_call 6; refine (at_peer _ _ s0 s1).mono ?_; rintro e w9 ⟨rfl, hb9⟩; have d9 := cell_later hb9 d8; have HB9 : Hid (Below w7.heap.size w7 w9) := HB8.out.trans (hb9.mono HB8.out.size); clear hb9 HB8)
          | (go_at_call 7; refine (has_last g cap m' f (bid x) s w9 (Nat.lt_of_lt_of_le HG.out HB9.out.size) (fun j hj i v hv => cell_later HB9.out (HC.out j hj i v hv)) HF.out hm').mono ?_; rintro e w10 ⟨rfl, hb10⟩; have d10 := cell_later hb10 d9; have HB10 : Hid (Below w.heap.size w w10) := HB7.out.trans ((HB9.out.trans (hb10.mono HB9.out.size)).mono HB7.out.size); clear hb10))
      go_wp2
      go_ret
      exact ⟨rfl, HB10.out⟩
end Go.Proofs.Ybulkbbkq
