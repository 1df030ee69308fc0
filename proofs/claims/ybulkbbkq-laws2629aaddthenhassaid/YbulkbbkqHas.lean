/-
  (recentPeers).has over a slice of peers: the range over slices.Backward.
-/
import Derived.Test.YbulkbbkqBack
namespace Go.Proofs.Ybulkbbkq
open Go.RowKit Go.Shelf
attribute [local go_sem] Oper.semAt_some
theorem World.alloc_heap_old' {w : World} {o : Obj} {i : Nat} (h : i < w.heap.size) : (w.alloc o).heap[i]? = w.heap[i]? := Below.heap_alloc w o i h
/-- the zero peer's cells -/
def z35 : Array Value := (pcs (0, 0)).toArray
theorem z35_size : z35.size = 67 := pcs_size _
theorem zero35 (w : World) : (zeroValue 35).run Yba.prog w = .ok (.agg z35) w := by kernel_rfl
theorem rangeAt_block {w : World} {b : Nat} {C : List Value} {t : TypeId} {fr : Nat × Nat} (hb : w.heap[b]? = some (.cells C.toArray t fr)) : w.rangeAt b 0 C := fun j v hv => by
  rw [Nat.zero_add, cell_of_row w b j C.toArray t fr hb]; simpa using hv
theorem keepsFrom_below {B : Nat} {W W' : World} (h : Below W.heap.size W W') : KeepsFrom B W W' :=
  ⟨h.size, fun k o _ h0 _ => by have := (Array.getElem?_eq_some_iff.1 h0).1; rw [← h0]; exact h.block k this⟩
set_option maxRecDepth 100000 in
set_option maxHeartbeats 2000000 in
theorem has_in (F : Fence) (n : Nat) (hF : F = Fence.wide) (hn : 3 ≤ n) (b off cap : Nat) (xs : List (UInt8 × Int)) (hlen : xs.length ≤ 4096) (k : UInt8) (t : Int) (w : World) (hb : b < w.heap.size)
    (hI : ∀ j, j < xs.length → w.rangeAt b (off + j * 67) (pcs (elt xs j))) :
    CallsIn F n Yba.prog 7 #[.slice (some ⟨b, off, none⟩) xs.length cap, .agg (idc (k.toNat : Int)).toArray, .agg (tmc t).toArray] w fun e W' => e = .returned (.bool (hasB k t (upto (back xs) xs.length))) ∧ Below w.heap.size w W' := by
  subst hF
  have h1 : 1 ≤ n := by omega
  have hro : Fence.wide.round = none := rfl
  refine callsIn_of_wp_marks Yba.func7 rfl trivial ?_ hro
  simp only [Yba.ntmps7, List.size_toArray, List.length_cons, List.length_nil, Nat.reduceAdd, Nat.reduceSub, Array.replicate_succ, Array.replicate_zero, List.push_toArray, List.append_toArray, List.nil_append, List.cons_append]
  gi_wp2_with (refine ⟨trivial, ?_⟩; gi_at_call 10; refine (back_in Fence.wide (n - 1) trivial hro _ _ _ _).mono ?_; rintro e w' ⟨rfl, rfl⟩)
  obtain ⟨W0, hW0⟩ : ∃ W0, (((w.alloc (.cells (idc (k.toNat : Int)).toArray 27)).alloc (.cells (tmc t).toArray 32)).alloc (.cells #[.bool false] 4)).alloc (.cells #[.slice (some ⟨b, off, none⟩) xs.length cap] 25) = W0 := ⟨_, rfl⟩
  have hB0 : Below w.heap.size w W0 := by rw [← hW0]; exact ((((Below.refl _ w).alloc (Nat.le_refl _) _).alloc (by simp) _).alloc (by simp; omega) _).alloc (by simp; omega) _
  have hsz : W0.heap.size = w.heap.size + 4 := by rw [← hW0]; simp
  have bK : W0.heap[w.heap.size]? = some (.cells (idc (k.toNat : Int)).toArray 27) := by
    rw [← hW0, World.alloc_heap_old' (by simp; omega), World.alloc_heap_old' (by simp; omega), World.alloc_heap_old' (by simp)]; exact heap_alloc_new _ _
  have bT : W0.heap[w.heap.size + 1]? = some (.cells (tmc t).toArray 32) := by
    rw [← hW0, World.alloc_heap_old' (by simp), World.alloc_heap_old' (by simp)]; exact heap_alloc2_new _ _ _
  have bR : Boxed W0 (w.heap.size + 1 + 1) 4 (.bool false) := by
    rw [← hW0]; have := Boxed.new ((w.alloc (.cells (idc (k.toNat : Int)).toArray 27)).alloc (.cells (tmc t).toArray 32)) 4 (.bool false)
    simp only [World.size_alloc] at this; exact this.alloc _
  have bS : Boxed W0 (w.heap.size + 1 + 1 + 1) 25 (.slice (some ⟨b, off, none⟩) xs.length cap) := by
    rw [← hW0]; have := Boxed.new (((w.alloc (.cells (idc (k.toNat : Int)).toArray 27)).alloc (.cells (tmc t).toArray 32)).alloc (.cells #[.bool false] 4)) 25 (.slice (some ⟨b, off, none⟩) xs.length cap)
    simp only [World.size_alloc] at this; exact this
  rw [hW0]
  clear hW0
  refine wpIn_rangeFunc_ownH hro h1 (gf := 16) (lb := #[.pointer (some ⟨w.heap.size + 1 + 1 + 1, 0, none⟩)]) rfl trivial (enters_of Yba.func16 (by kernel_rfl) rfl)
    (back_stops Fence.wide (n - 1) trivial hro (by omega) (w.heap.size + 1 + 1 + 1) W0.heap.size b off cap xs hlen W0 (by omega) (by omega) (Nat.le_refl _) bS.cell (fun j hj i v hv => (hB0.cell (p := ⟨b, off + j * 67 + i, none⟩) hb).trans (hI j hj i v hv)))
    belowK_t (belowK_b (Nat.le_refl _)) (Below.refl _ _) (fun _ => rfl)
    (fun pre W => (∀ q ∈ pre, t ≤ q.2.2 ∧ (q.2.1 == k) = false) ∧ Below W0.heap.size W0 W)
    (fun c pre W => (c = .ret ∧ ∃ ini last, pre = ini ++ [last] ∧ (∀ q ∈ ini, t ≤ q.2.2 ∧ (q.2.1 == k) = false) ∧ (last.2.2 < t ∨ (last.2.1 == k) = true) ∧ Boxed W (w.heap.size + 1 + 1) 4 (.bool (decide (t ≤ last.2.2)))) ∧ Below w.heap.size w W)
    (OwnFrom.and (ownFrom_pure _ _) (ownFrom_below (Nat.le_refl _) (Nat.le_refl _)))
    (fun c => OwnFrom.and (Own.from (fun pre X Y row hs hg hr => by
        obtain ⟨hc, ini, last, e1, e2, e3, e4⟩ := hs
        exact ⟨hc, ini, last, e1, e2, e3, boxed_own (w.heap.size + 1 + 1) 4 (fun (_ : Unit) => Value.bool (decide (t ≤ last.2.2))) () X Y row e4 hg hr⟩) _) (ownFrom_below (Nat.le_refl _) (by omega)))
    ⟨by simp, Below.refl _ _⟩
    (fun x a' W => ∃ Bx, W0.heap.size ≤ Bx ∧ W.rangeAt Bx 0 (pcs x.2) ∧ a' = { tmps := #[.slice (some ⟨b, off, none⟩) xs.length cap, .agg (idc (k.toNat : Int)).toArray, .agg (tmc t).toArray, undef, .pointer (some ⟨w.heap.size, 0, none⟩), .pointer (some ⟨w.heap.size + 1, 0, none⟩), .pointer (some ⟨w.heap.size + 1 + 1, 0, none⟩), undef, .pointer (some ⟨Bx, 0, none⟩), .slice (some ⟨b, off, none⟩) xs.length cap, .func (.func 16) #[] #[.pointer (some ⟨w.heap.size + 1 + 1 + 1, 0, none⟩)], .int .i64 x.1, .agg (pcs x.2).toArray, undef, undef, undef, undef, undef, undef, undef, undef], defers := [] })
    (fun x a' _ X Y row hs hg hr => by obtain ⟨Bx, h1, h2, h3⟩ := hs; exact ⟨Bx, h1, fun j v hv => cell_kept (h2 j v hv) hg (fun r e => (hr r e).2), h3⟩)
    ?assign ?body ?done ?stop
  case assign =>
    rintro l pre x W K ⟨hp, hB1⟩ hK
    have hz := zero35
    have hnew := heap_alloc_new W (.cells z35 35)
    have ht : (W.alloc (.cells z35 35)).there W.heap.size 0 (pcs x.2).toArray.size := by have := there_of_block hnew; rw [z35_size] at this; rw [pcs_size]; exact this
    have hi35 : (Yba.prog.info? 35).map (·.size) = some (pcs x.2).toArray.size := by rw [info35, pcs_size]
    gi_wp2_with (refine wpListIn_store_mid rfl 35 (.tmp 8) (.tmp 12) rfl W.heap.size 0 (pcs x.2).toArray rfl rfl ht hi35 (all_oneCell_toArray (pcs_one _)) ?_)
    have hBW : Below W0.heap.size W ((W.alloc (.cells z35 35)).setCells W.heap.size 0 (pcs x.2)) := below_setCells hB1.size _ _ ((Below.refl _ W).alloc hB1.size _)
    refine hK _ _ ?_ hBW ⟨hp, hB1.trans hBW⟩ ⟨W.heap.size, hB1.size, World.rangeAt_setCells_same _ _ _ _ (by rw [pcs_length]; rw [pcs_size] at ht; exact ht), rfl⟩
    exact keepsFrom_below (below_setCells (Nat.le_refl _) _ _ ((Below.refl _ W).alloc (Nat.le_refl _) _))
  case body =>
    rintro l pre x a' W hl ⟨r, hr⟩ ⟨hp, hB1⟩ ⟨Bx, hBx, hrx, rfl⟩ hlt
    have h1' : 1 ≤ n - 1 - 1 := by omega
    have rT : W.rangeAt (w.heap.size + 1) 0 (tmc t) := rangeAt_block ((hB1.block _ (by omega)).trans bT)
    have rK : W.rangeAt w.heap.size 0 (idc (k.toNat : Int)) := rangeAt_block ((hB1.block _ (by omega)).trans bK)
    have bR1 : Boxed W (w.heap.size + 1 + 1) 4 (.bool false) := (hB1.block _ (by omega)).trans bR
    have rx1 : W.rangeAt Bx 0 (idc (x.2.1.toNat : Int)) := fun j v hv => hrx j v (by rw [pcs, List.getElem?_append_left (List.getElem?_eq_some_iff.1 hv).1]; exact hv)
    have rx2 : W.rangeAt Bx 64 (tmc x.2.2) := fun j v hv => by
      have := hrx (64 + j) v (by rw [pcs, List.getElem?_append_right (by rw [idc_length]; omega), idc_length, Nat.add_sub_cancel_left]; exact hv)
      rw [Nat.zero_add] at this; exact this
    have i32 : (Yba.prog.info? 32).map (·.size) = some 3 := by kernel_rfl
    have i27 := info27
    have q27 := eq27
    gi_wp2_with (first | (refine wpListIn_load_mid rfl 32 (.tmp 13) rfl Bx 64 rfl (tmc x.2.2) _ rx2 Yba.underlying32 rfl i32 ?_) | (refine wpListIn_load_mid rfl 32 (.tmp 5) rfl (w.heap.size + 1) 0 rfl (tmc t) _ rT Yba.underlying32 rfl i32 ?_))
    refine ⟨trivial, ?_⟩
    refine (CallsIn.inRound l (callsIn_wide.2 (before_tmc _ _ _))).mono ?_
    rintro e W2 ⟨rfl, hb2⟩
    have hlt2 : ∀ k' v, W.rangeAt k' 0 v → 0 < v.length → k' < W.heap.size := fun k' v hr hl => block_lt_of_cell (hr 0 _ (List.getElem?_eq_getElem hl))
    have rx1' : W2.rangeAt Bx 0 (idc (x.2.1.toNat : Int)) := fun j v hv => (hb2.cell (p := ⟨Bx, 0 + j, none⟩) (block_lt_of_cell (rx1 j v hv))).trans (rx1 j v hv)
    have rK' : W2.rangeAt w.heap.size 0 (idc (k.toNat : Int)) := fun j v hv => (hb2.cell (p := ⟨w.heap.size, 0 + j, none⟩) (block_lt_of_cell (rK j v hv))).trans (rK j v hv)
    have bR2 : Boxed W2 (w.heap.size + 1 + 1) 4 (.bool false) := (hb2.block _ bR1.lt).trans bR1
    have cR := bR2.cell
    have fR := bR2.frozen
    have hBW2 : Below W0.heap.size W W2 := hb2.mono hB1.size
    have HH : Hid (Below W0.heap.size W0 W2 ∧ KeepsFrom W0.heap.size W W2 ∧ Below W0.heap.size W W2) := ⟨hB1.trans hBW2, keepsFrom_below hb2, hBW2⟩
    have HP : Hid (∀ q ∈ pre, t ≤ q.2.2 ∧ (q.2.1 == k) = false) := hp
    have HB : Hid (Below w.heap.size w W2) := hB0.trans ((hB1.trans hBW2).mono (by omega))
    clear rx1 rK bR1 hrx rT hlt2 hBW2 hb2 hB1 hp hr hl hlt bK bT bR bS hI hb rx2 hB0
    by_cases hx : x.2.2 < t
    · have hd : decide (x.2.2 < t) = true := decide_eq_true hx
      gi_wp2
      refine ⟨HH.out.2.1.trans ((KeepsOthers.setCell _ _ _).from _), ⟨rfl, pre, x, rfl, HP.out, .inl hx, ?_⟩, HB.out.setCell (p := ⟨w.heap.size + 1 + 1, 0, none⟩) (by simp; omega) _⟩
      rw [decide_eq_false (by omega)]; exact bR2.set _
    · have hd : decide (x.2.2 < t) = false := decide_eq_false hx
      by_cases hk : (x.2.1 == k) = true
      · gi_wp2_with (first | (refine wpListIn_load_mid rfl 27 (.tmp 17) rfl Bx 0 rfl (idc (x.2.1.toNat : Int)) _ rx1' Yba.underlying27 rfl (by rw [info27, idc_length]) ?_) | (refine wpListIn_load_mid rfl 27 (.tmp 4) rfl w.heap.size 0 rfl (idc (k.toNat : Int)) _ rK' Yba.underlying27 rfl (by rw [info27, idc_length]) ?_))
        refine ⟨HH.out.2.1.trans ((KeepsOthers.setCell _ _ _).from _), ⟨rfl, pre, x, rfl, HP.out, .inr hk, ?_⟩, HB.out.setCell (p := ⟨w.heap.size + 1 + 1, 0, none⟩) (by simp; omega) _⟩
        rw [decide_eq_true (by omega)]; exact bR2.set _
      · have hk' : (x.2.1 == k) = false := by simpa using hk
        clear hk
        gi_wp2_with (first | (refine wpListIn_load_mid rfl 27 (.tmp 17) rfl Bx 0 rfl (idc (x.2.1.toNat : Int)) _ rx1' Yba.underlying27 rfl (by rw [info27, idc_length]) ?_) | (refine wpListIn_load_mid rfl 27 (.tmp 4) rfl w.heap.size 0 rfl (idc (k.toNat : Int)) _ rK' Yba.underlying27 rfl (by rw [info27, idc_length]) ?_))
        exact ⟨HH.out.2.1, HH.out.2.2, fun q hq => (List.mem_append.1 hq).elim (HP.out q) (fun e => by simp at e; subst e; exact ⟨by omega, hk'⟩), HH.out.1⟩
  case done =>
    rintro D zs W hD rfl ⟨hp, hB1⟩ hK
    have bR1 : Boxed W (w.heap.size + 1 + 1) 4 (.bool false) := (hB1.block _ (by omega)).trans bR
    have cR := bR1.cell
    have fR := bR1.frozen
    gi_wp2
    have hK' := (KeepsOthers.setCell W ⟨w.heap.size + 1 + 1, 0, none⟩ (.bool false)).same D _ hK rfl
    refine ⟨by simp, .inl ⟨_, _, rfl, run_takeDeferred hK', ?_⟩⟩
    have hc5 := cell_kept (World.cell?_setCell_same' W ⟨w.heap.size + 1 + 1, 0, none⟩ (.bool false) (by rw [cR]; rfl)) (grownBy_putObj' _ D (.deferred none)) (fun r e => by cases e; exact ⟨_, hK', rfl⟩)
    refine ⟨.bool false, ?_, ?_, (((hB0.trans (hB1.mono (by omega))).setCell (p := ⟨w.heap.size + 1 + 1, 0, none⟩) (by simp; omega) _).trans (belowK_b (w := w) (Nat.le_refl _) _ D _ _ (by omega) hK' rfl rfl))⟩
    · simp [results, Yba.f7, go_sem, hc5]
    · have := hasB_pass k t (upto (back xs) xs.length) [] (fun q hq => ⟨by have := (hp q hq).1; omega, (hp q hq).2⟩)
      rw [List.append_nil] at this
      rw [this]; rfl
  case stop =>
    rintro D c pre W hD ⟨m, hm, rfl⟩ ⟨⟨rfl, ini, last, e1, e2, e3, e4⟩, hB1⟩ hK
    have cR := e4.cell
    gi_wp2
    refine ⟨by simp, .inl ⟨_, _, rfl, run_takeDeferred hK, ?_⟩⟩
    have hc5 := cell_kept cR (grownBy_putObj' _ D (.deferred none)) (fun r e => by cases e; exact ⟨_, hK, rfl⟩)
    refine ⟨.bool (decide (t ≤ last.2.2)), ?_, ?_, hB1.trans (belowK_b (w := w) (Nat.le_refl _) W D _ _ (by omega) hK rfl rfl)⟩
    · simp [results, Yba.f7, go_sem, hc5]
    · have hs : upto (back xs) xs.length = ini ++ (last :: (List.range (xs.length - m)).map (fun j => back xs (m + j))) := by
        rw [show xs.length = m + (xs.length - m) by omega, upto_prefix, e1]; simp
      rw [hs, hasB_pass k t ini _ (fun q hq => ⟨by have := (e2 q hq).1; omega, (e2 q hq).2⟩), hasB]
      rcases e3 with e3 | e3
      · rw [if_pos e3, decide_eq_false (by omega)]
      · by_cases hx : last.2.2 < t
        · rw [if_pos hx, decide_eq_false (by omega)]
        · rw [if_neg hx, if_pos e3, decide_eq_true (by omega)]
theorem has_any (b off cap : Nat) (xs : List (UInt8 × Int)) (hlen : xs.length ≤ 4096) (k : UInt8) (t : Int) (w : World) (hb : b < w.heap.size)
    (hI : ∀ j, j < xs.length → w.rangeAt b (off + j * 67) (pcs (elt xs j))) :
    Calls Yba.prog 7 #[.slice (some ⟨b, off, none⟩) xs.length cap, .agg (idc (k.toNat : Int)).toArray, .agg (tmc t).toArray] w fun e W' => e = .returned (.bool (hasB k t (upto (back xs) xs.length))) ∧ Below w.heap.size w W' :=
  (callsIn_wide (n := 3)).1 (has_in Fence.wide 3 rfl (Nat.le_refl _) b off cap xs hlen k t w hb hI)
end Go.Proofs.Ybulkbbkq
