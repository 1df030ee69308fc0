/-
  The walk of LawS2629AModel: three loops and has, where the ids are no more than the times, and where they are more.
-/
import Derived.Test.YbulkbbkqPlain
import Derived.Deep.RegionHeld3
import Derived.Deep.RegionLaw
import Derived.Deep.DrawnRows
import Derived.Great.BuildSlice
import Derived.Deep.AppendLies
import Derived.WalkSpells
namespace Go.Proofs.Ybulkbbkq
open Go.RowKit
theorem info35' : (Yba.prog.info? 35).map (fun i => (i.zero, i.size, i.bytes)) = some (some (.agg z35), 67, 88) := by kernel_rfl
theorem fold64 (k : Int) : (List.foldl (fun cs (x : Value × Nat) => cs.setIfInBounds x.snd x.fst) z35 (idc k).zipIdx).size = 67 := by kernel_rfl
theorem fold67 (k a : Int) : List.foldl (fun cs (x : Value × Nat) => cs.setIfInBounds (64 + x.snd) x.fst) (List.foldl (fun cs (x : Value × Nat) => cs.setIfInBounds x.snd x.fst) z35 (idc k).zipIdx) (tmc a).zipIdx = (idc k ++ tmc a).toArray := by kernel_rfl
theorem fold_set : ∀ (l : List Value) (o : Nat) (cells : Array Value), o + l.length ≤ cells.size →
    ((l.zipIdx o).foldl (fun cs (x : Value × Nat) => cs.setIfInBounds (0 * 67 + x.2) x.1) cells).toList = cells.toList.take o ++ l ++ cells.toList.drop (o + l.length)
  | [], o, cells, _ => by simp
  | x :: l, o, cells, h => by
    rw [List.zipIdx_cons, List.foldl_cons]
    have h' : o + 1 + l.length ≤ (cells.setIfInBounds (0 * 67 + o) x).size := by simp at h ⊢; omega
    rw [fold_set l (o + 1) _ h']
    simp only [List.length_cons] at h
    have ho : o < cells.toList.length := by rw [Array.length_toList]; omega
    simp only [Nat.zero_mul, Nat.zero_add, Array.toList_setIfInBounds, List.length_cons]
    rw [List.take_succ_eq_append_getElem (by simpa using ho), List.getElem_set_self, List.take_set_of_le (Nat.le_refl _), List.drop_set_of_lt (by omega)]
    simp [Nat.add_assoc, Nat.add_comm 1]
theorem fill25 (v : Value) (hc : v.cells.size = 67) : Instr.fill (fun i => some (i * 67, 67)) ((Array.range (1 * 67)).map (z35[· % z35.size]!)) [(0, v)] = some v.cells := by
  generalize hcv : v.cells = c at hc ⊢
  have hz : ((Array.range (1 * 67)).map (z35[· % z35.size]!)).size = 67 := by simp
  have := fold_set c.toList 0 ((Array.range (1 * 67)).map (z35[· % z35.size]!)) (by rw [hz]; simp [hc])
  rw [Nat.zero_add, Array.length_toList, hc, List.take_zero, List.nil_append, List.drop_of_length_le (by rw [Array.length_toList, hz]; exact Nat.le_refl _), List.append_nil] at this
  generalize (Array.range (1 * 67)).map (z35[· % z35.size]!) = Z at this hz ⊢
  have e : Instr.fill (fun i => some (i * 67, 67)) Z [(0, v)] = if (decide (c.size ≠ 67) || decide (0 * 67 + c.size > Z.size)) = true then none else some (c.zipIdx.foldl (fun cs x => cs.setIfInBounds (0 * 67 + x.2) x.1) Z) := by subst hcv; rfl
  rw [e, if_neg (by simp [hc, hz])]
  congr 1
  apply Array.toList_inj.1
  rw [← this, ← Array.foldl_toList, Array.toList_zipIdx]
theorem wp_buildSlice25 (d : Option Nat) (t : TypeId) (p : String) (f : Array Edge) (x : Nat) (T : Array Value) (D : List Deferred) (w : World) (K : Act → World → Prop) (Q : Exit → Act → World → Prop) (hc : (T.getD x undef).cells.size = 67) :
    Oper.wp Yba.prog { dst := d, op := .buildSlice 25 1 #[(0, .tmp x)], type := t, pos := p, after := f, guard := none } { tmps := T, defers := D } w K Q = K (Act.put { tmps := T, defers := D } d (.slice (some ⟨w.heap.size, 0, none⟩) 1 1)) (w.alloc (.cells (T.getD x undef).cells 35)) := by
  obtain ⟨i0, hi, hz0, hz1, hz2⟩ := info_parts info35'
  have e : (#[(0, Operand.tmp x)].map fun (q : Nat × Operand) => (q.1, Act.eval { tmps := T, defers := D } q.2)).toList = [(0, T.getD x undef)] := by
    simp [Act.eval]
  have hf : Instr.fill (fun i => some (i * i0.size, i0.size)) ((Array.range (1 * i0.size)).map ((Value.agg z35).cells[· % (Value.agg z35).cells.size]!)) (#[(0, Operand.tmp x)].map fun (q : Nat × Operand) => (q.1, Act.eval { tmps := T, defers := D } q.2)).toList = some (T.getD x undef).cells := by
    rw [e, hz1]; exact fill25 _ hc
  unfold Oper.wp execOp
  simp only [Sem.run_bind, run_buildSlice w 25 35 1 _ _ i0 (.agg z35) Yba.underlying25 hi hz0 (by rw [hz1]; omega) (by rw [hz1]; omega) hf, Result.andThen_ok, Sem.run_pure]
  rfl
theorem tmc_length (a : Int) : (tmc a).length = 3 := rfl
theorem id_peer (x : Int) (w : World) (h0 : 0 ≤ x) (h1 : x ≤ 255) : Calls Yba.prog 5 #[.int .u8 x] w fun e w' => e = .returned (.agg (idc ((bid x).toNat : Int)).toArray) ∧ Below w.heap.size w w' := by
  rw [bid_toNat]; exact id_any x w h0 h1
theorem at_peer (a : Int) (w : World) (h0 : -2147483648 ≤ a) (h1 : a ≤ 2147483647) : Calls Yba.prog 6 #[.int .i32 a] w fun e w' => e = .returned (.agg (tmc a).toArray) ∧ Below w.heap.size w w' := at_any a w h0 h1
/-- WHAT THE WALK IS TOLD OF A SLICE: its first n elements, where there are any. -/
def View (w : World) (a : Option Addr) (k : IntKind) (n : Nat) (I : Nat → Int) : Prop :=
  0 < n → ∃ b off, a = some ⟨b, off, none⟩ ∧ b < w.heap.size ∧ ∀ i, i < n → w.cell? ⟨b, off + i, none⟩ = some (.int k (I i))
theorem there_made {w : World} {base g n : Nat} (h : w.ownsRow base 35 67 (.slice (some ⟨g, 0, none⟩) 0 n) 0 []) : w.there g 0 (n * 67) := by
  rcases h.2 with ⟨e, _⟩ | ⟨g', cap, cur, e, _, hb, _, _, hs, _⟩
  · cases e
  · cases e
    have := there_of_block hb
    rw [hs] at this; exact this
theorem cell_far {w : World} {b b' o o' : Nat} {vs : List Value} {v : Value} (h : w.cell? ⟨b', o', none⟩ = some v) (hne : b' ≠ b) : (w.setCells b o vs).cell? ⟨b', o', none⟩ = some v :=
  World.rangeAt_setCells_apart (cs := [v]) (b' := b') (o' := o') (fun j u hu => by
    match j, hu with
    | 0, hu => simp at hu; subst hu; exact h) b o vs (.inl hne) 0 v rfl
/-- WHAT THE LOOP THAT BUILDS r KEEPS: room for n peers in block g; the first k are there. -/
structure Built (w : World) (g n k : Nat) (I T : Nat → Int) : Prop where
  room : w.there g 0 (n * 67)
  cells : ∀ j, j < k → w.rangeAt g (j * 67) (pcs (peer I T j))
theorem Built.below {w w' : World} {g n k : Nat} {I T : Nat → Int} (h : Built w g n k I T) (hb : Below w.heap.size w w') : Built w' g n k I T :=
  ⟨fun j hj => by
    have h1 := (h.room j hj).1
    obtain ⟨v, hv⟩ := Option.isSome_iff_exists.1 h1
    have hlt := block_lt_of_cell hv
    exact ⟨by rw [hb.cell (p := ⟨g, 0 + j, none⟩) hlt]; exact h1, by rw [hb.frozen (p := ⟨g, 0 + j, none⟩) hlt]; exact (h.room j hj).2⟩,
   fun j hj i v hv => (hb.cell (p := ⟨g, j * 67 + i, none⟩) (block_lt_of_cell (h.cells j hj i v hv))).trans (h.cells j hj i v hv)⟩
theorem Built.alloc {w : World} {g n k : Nat} {I T : Nat → Int} (h : Built w g n k I T) (o : Obj) : Built (w.alloc o) g n k I T := h.below ((Below.refl _ w).alloc (Nat.le_refl _) _)
theorem Built.drew {w : World} {g n k : Nat} {I T : Nat → Int} (h : Built w g n k I T) : Built w.drew g n k I T :=
  ⟨(World.there_drew _ _ _ _).2 h.room, fun j hj => (World.rangeAt_drew _ _ _ _).2 (h.cells j hj)⟩
theorem Built.spare {w : World} {g n k : Nat} {I T : Nat → Int} (h : Built w g n k I T) (hk : k < n) : ∀ j, j < 67 → (w.cell? ⟨g, 0 + k * 67 + j, none⟩).isSome = true ∧ w.frozen? ⟨g, 0 + k * 67 + j, none⟩ = false := fun j hj => by
  have := h.room (k * 67 + j) (by have : (k + 1) * 67 ≤ n * 67 := Nat.mul_le_mul_right _ hk; omega)
  rw [Nat.add_assoc]; exact this
theorem Built.step {w : World} {g n k : Nat} {I T : Nat → Int} (h : Built w g n k I T) (hk : k < n) : Built (w.setCells g (0 + k * 67) (pcs (peer I T k))) g n (k + 1) I T := by
  have hk' : (k + 1) * 67 ≤ n * 67 := Nat.mul_le_mul_right _ hk
  refine ⟨World.there_setCells h.room _ _ _, fun j hj => ?_⟩
  by_cases e : j = k
  · subst e
    rw [Nat.zero_add]
    exact World.rangeAt_setCells_same _ _ _ _ (by rw [pcs_length]; intro i hi; have := h.spare hk i hi; rw [Nat.zero_add] at this; exact this)
  · exact World.rangeAt_setCells_apart (h.cells j (by omega)) _ _ _ (by rw [pcs_length, pcs_length]; omega)
theorem has_peers (g n cap : Nat) (I T : Nat → Int) (x s : Int) (w : World) (hg : g < w.heap.size) (h : Built w g cap n I T) (hn : n ≤ 4096) :
    Calls Yba.prog 7 #[.slice (some ⟨g, 0, none⟩) n cap, .agg (idc ((bid x).toNat : Int)).toArray, .agg (tmc s).toArray] w fun e w' => e = .returned (.bool (anyB I x (lastB T s n + 1) n)) ∧ Below w.heap.size w w' := by
  have := has_any g 0 cap (peers I T n) (by rw [peers_length]; exact hn) (bid x) s w hg (fun j hj => by
    rw [peers_length] at hj
    rw [elt_peers I T n j hj, Nat.zero_add]; exact h.cells j hj)
  rw [model_law, peers_length] at this
  exact this
attribute [local go_sem ↓] wp_buildSlice25 Go.wp_at_zero Go.wp_at_succ
set_option maxRecDepth 100000 in
set_option maxHeartbeats 1000000 in
theorem model_A (a0 a1 : Option Addr) (len0 cap0 len1 cap1 : Nat) (I T : Nat → Int) (x s : Int) (w : World) (hI : ∀ i, 0 ≤ I i ∧ I i ≤ 255) (hT : ∀ i, -2147483648 ≤ T i ∧ T i ≤ 2147483647) (x0 : 0 ≤ x) (x1 : x ≤ 255) (s0 : -2147483648 ≤ s) (s1 : s ≤ 2147483647)
    (hl0 : len0 ≤ 1024) (hl1 : len1 ≤ 1024) (hlt : ¬ len1 < len0) (V0 : View w a0 .u8 len0 I) (V1 : View w a1 .i32 len0 T) :
    Calls Yba.prog 3 #[.slice a0 len0 cap0, .slice a1 len1 cap1, .int .u8 x, .int .i32 s] w fun e w' => e = .returned (.bool true) ∧ Below w.heap.size w w' := by
  obtain ⟨i0, hi, hz0, hz1, hz2⟩ := info_parts info35'
  have H5 : Hid (Yba.prog.info? 35 = some i0 ∧ i0.zero = some (.agg z35) ∧ i0.size = 67 ∧ i0.bytes = 88) := ⟨hi, hz0, hz1, hz2⟩
  clear hi hz0 hz1 hz2
  go_enter Yba.func3, Yba.ntmps3
  go_wp2_with (at_make; refine wpList_make_own _ rfl _ _ 25 rfl w.heap.size 35 i0 (.agg z35) 67 Yba.underlying25 H5.out.1 H5.out.2.1 H5.out.2.2.1 .i64 .i64 _ len0 rfl rfl (by omega) (by rw [H5.out.2.2.2]; omega) (by unfold maxLen; omega) (Nat.le_refl _) ?_; intro w1 hown hgrow)
  have hB1 : Below w.heap.size w w1 := (Below.refl _ w).grown hgrow (Nat.le_refl _) (fun k e => by cases e)
  have hbt : Built w1 w.heap.size len0 0 I T := ⟨there_made hown, fun j hj => absurd hj (by omega)⟩
  have hg1 : w.heap.size < w1.heap.size := by
    rcases hown.2 with ⟨e, _⟩ | ⟨g', cap, cur, e, _, hb, _⟩
    · cases e
    · cases e; exact (Array.getElem?_eq_some_iff.1 hb).1
  clear hown hgrow
  go_loopw [10, 11] (fun r i wr => ∃ k : Nat, k ≤ len0 ∧ i = .int .i64 k ∧ r = .slice (some ⟨w.heap.size, 0, none⟩) k len0 ∧ Built wr w.heap.size len0 k I T ∧ Below w.heap.size w wr ∧ w.heap.size < wr.heap.size) (fun _ i _ => len0 - (intOf i).toNat)
  case atStart => exact ⟨0, Nat.zero_le _, rfl, rfl, hbt, hB1, hg1⟩
  case round =>
    obtain ⟨k, hk, rfl, rfl, hbd, hnx, hgl⟩ := hrel
    clear hbt hB1 hg1
    by_cases hlk : k < len0
    · obtain ⟨b0, f0, rfl, hb0, hc0⟩ := V0 (by omega)
      obtain ⟨b1, f1, rfl, hb1, hc1⟩ := V1 (by omega)
      have c0 : wr.cell? ⟨b0, f0 + k, none⟩ = some (.int .u8 (I k)) := (hnx.cell (p := ⟨b0, f0 + k, none⟩) hb0).trans (hc0 k hlk)
      have c1 : wr.cell? ⟨b1, f1 + k, none⟩ = some (.int .i32 (T k)) := (hnx.cell (p := ⟨b1, f1 + k, none⟩) hb1).trans (hc1 k hlk)
      have hi0 := hI k
      have hi1 := hT k
      have l1 := idc_length
      have l2 := tmc_length
      have l3 := zero35
      have l4 := z35_size
      have l5 := fold64
      have l6 := fold67
      have u0 : (0 : Int) ≤ (k : Int) := by omega
      have u1 : (k : Int) < (len0 : Int) := by omega
      have u2 : (k : Int) < (len1 : Int) := by omega
      have HV : Hid (Built wr w.heap.size len0 k I T) := hbd
      clear hbd
      have N0 : Hid (Below w.heap.size w wr) := hnx
      have ne0 : b0 ≠ w.heap.size := by omega
      have ne1 : b1 ≠ w.heap.size := by omega
      clear hnx hb0 hb1 hc0 hc1 V0 V1 hgl
      go_wp2
      go_region_held3 (fun w' => w'.cell? ⟨b0, f0 + k, none⟩ = some (.int .u8 (I k)) ∧ w'.cell? ⟨b1, f1 + k, none⟩ = some (.int .i32 (T k))) (first | (exact ⟨cell_far (cell_later ((Below.refl _ w3).alloc (Nat.le_refl _) _) e0) ne0, cell_far (cell_later ((Below.refl _ w3).alloc (Nat.le_refl _) _) e1) ne1⟩) | go_keep)
        (first
          | (go_at_call 5; refine (id_peer _ _ hi0.1 hi0.2).mono ?_; rintro e w2 ⟨rfl, hb2⟩; have d0 := cell_later hb2 (a := ⟨b0, f0 + k, none⟩) (v := .int .u8 (I k)) c0; have d1 := cell_later hb2 (a := ⟨b1, f1 + k, none⟩) (v := .int .i32 (T k)) c1; have HV2 : Hid (Built w2 w.heap.size len0 k I T) := HV.out.drew.below hb2; have N2 : Hid (Below w.heap.size w w2) := N0.out.drew.trans (hb2.mono N0.out.size); clear hb2 HV N0)
          | (go_at_call 6; refine (at_peer _ _ hi1.1 hi1.2).mono ?_; rintro e w3 ⟨rfl, hb3⟩; have e0 := cell_later hb3 d0; have e1 := cell_later hb3 d1; have HV3 : Hid (Built w3 w.heap.size len0 k I T) := HV2.out.below hb3; have N3 : Hid (Below w.heap.size w w3) := N2.out.trans (hb3.mono N2.out.size); clear hb3 HV2 N2)
          | (refine step_append_room (by rfl) _ _ 25 (by rfl) 35 i0 67 Yba.underlying25 H5.out.1 H5.out.2.2.1 w.heap.size 0 k len0 (by rfl) ⟨w3.heap.size, 0, none⟩ 1 1 (pcs (peer I T k)) (by rfl) (by rw [pcs_length]) (World.news_of_block (cs := (pcs (peer I T k)).toArray) (t := 35) (fr := (0, 0)) (heap_alloc_new w3 _)) (pcs_one _) (by omega) (by rw [pcs_length]; exact (HV3.out.alloc _).spare hlk) ?_))
      obtain ⟨w4, hw4⟩ : ∃ w4, (w3.alloc (.cells (idc ((bid (I k)).toNat : Int) ++ tmc (T k)).toArray 35)).setCells w.heap.size (0 + k * 67) (pcs (peer I T k)) = w4 := ⟨_, rfl⟩
      have R : Hid (Built w4 w.heap.size len0 (k + 1) I T ∧ Below w.heap.size w w4 ∧ w.heap.size < w4.heap.size) := by
        have hb4 : Below w.heap.size w w4 := by rw [← hw4]; exact below_setCells (Nat.le_refl _) _ _ (N3.out.alloc N3.out.size _)
        have hbt : Built w4 w.heap.size len0 (k + 1) I T := by rw [← hw4]; exact (HV3.out.alloc _).step hlk
        exact ⟨hbt, hb4, block_lt_of_cell (hbt.cells 0 (by omega) 0 _ rfl)⟩
      rw [hw4]
      clear hw4 HV3 N3 e0 e1 d0 d1 l1 l2 l3 l4 l5 l6 c0 c1
      go_wp2
      go_roundw
      case rel => exact ⟨k + 1, by omega, by go_num, rfl, R.out.1, R.out.2.1, R.out.2.2⟩
      case measure => simp [intOf]; omega
    · obtain rfl : k = len0 := by omega
      have N0 : Hid (Below w.heap.size w wr ∧ Built wr w.heap.size k k I T) := ⟨hnx, hbd⟩
      clear hbd
      go_wp2
      go_loop [12, 13] (fun jv i => ∃ m : Nat, m ≤ k ∧ i = .int .i64 m ∧ jv = .int .i64 (lastB T s m)) (fun _ i => k - (intOf i).toNat)
      case atStart => exact ⟨0, Nat.zero_le _, rfl, rfl⟩
      case round =>
        obtain ⟨m, hm, rfl, rfl⟩ := hrel
        by_cases hmk : m < k
        · obtain ⟨b1, f1, rfl, hb1, hc1⟩ := V1 (by omega)
          have c1 : wr.cell? ⟨b1, f1 + m, none⟩ = some (.int .i32 (T m)) := (hnx.cell (p := ⟨b1, f1 + m, none⟩) hb1).trans (hc1 m hmk)
          clear hc1 V0 V1 hnx
          by_cases ht : T m < s
          · go_wp2
            go_round
            case rel => exact ⟨m + 1, by omega, by go_num, by rw [lastB, if_pos ht]⟩
            case measure => simp [intOf]; omega
          · have ht' : s ≤ T m := by omega
            go_wp2
            go_round
            case rel => exact ⟨m + 1, by omega, by go_num, by rw [lastB, if_neg (by omega)]⟩
            case measure => simp [intOf]; omega
        · obtain rfl : m = k := by omega
          have hlb := lastB_bd T s m
          obtain ⟨q, hq⟩ : ∃ q, q = lastB T s m := ⟨_, rfl⟩
          rw [← hq] at hlb ⊢
          have HQ : Hid (q = lastB T s m) := hq
          clear hq
          go_wp2
          go_loop [14, 15] (fun ev i => ∃ p : Nat, q + 1 ≤ p ∧ p ≤ m ∧ i = .int .i64 p ∧ ev = .bool (anyB I x (q + 1) p)) (fun _ i => m - (intOf i).toNat)
          case atStart => exact ⟨(q + 1).toNat, by omega, by omega, by go_num, by rw [anyB_none I x (q + 1) _ (by omega)]⟩
          case round =>
            obtain ⟨p, hp0, hp1, rfl, rfl⟩ := hrel
            by_cases hpk : p < m
            · obtain ⟨b0, f0, rfl, hb0, hc0⟩ := V0 (by omega)
              have c0 : wr.cell? ⟨b0, f0 + p, none⟩ = some (.int .u8 (I p)) := (hnx.cell (p := ⟨b0, f0 + p, none⟩) hb0).trans (hc0 p hpk)
              have hi0 := hI p
              clear hc0 V0 V1 hnx hI hT
              have hst : anyB I x (q + 1) (p + 1) = (anyB I x (q + 1) p || (I p % 4 == x % 4)) := by rw [anyB, decide_eq_true (by omega), Bool.true_and]
              have HS : Hid (anyB I x (q + 1) (p + 1) = (anyB I x (q + 1) p || (I p % 4 == x % 4))) := hst
              clear hst
              by_cases he : (I p % 4 == x % 4) = true
              · go_wp2
                go_round
                case rel => exact ⟨p + 1, by omega, by omega, by go_num, by rw [HS.out, he, Bool.or_true]⟩
                case measure => simp [intOf]; omega
              · have he' : (I p % 4 == x % 4) = false := by simpa using he
                clear he
                go_wp2
                go_round
                case rel => exact ⟨p + 1, by omega, by omega, by go_num, by rw [HS.out, he', Bool.or_false]⟩
                case measure => simp [intOf]; omega
            · obtain rfl : p = m := by omega
              clear hnx hI hT V0 V1
              go_wp2_with fail
              refine (id_peer x wr x0 x1).mono ?_
              rintro e w5 ⟨rfl, hb5⟩
              go_wp2_with fail
              refine (at_peer s w5 s0 s1).mono ?_
              rintro e w6 ⟨rfl, hb6⟩
              go_wp2_with fail
              have hb56 : Below wr.heap.size wr w6 := hb5.trans (hb6.mono hb5.size)
              refine (has_peers w.heap.size p p I T x s w6 (by have := hb56.size; omega) (N0.out.2.below hb56) (by omega)).mono ?_
              rintro e w7 ⟨rfl, hb7⟩
              rw [← HQ.out]
              have N7 : Hid (Below w.heap.size w w7) := N0.out.1.trans ((hb56.trans (hb7.mono hb56.size)).mono (by omega))
              clear hb5 hb6 hb7 hb56
              go_wp2
              go_ret
              exact ⟨by simp, N7.out⟩
set_option maxRecDepth 100000 in
set_option maxHeartbeats 1000000 in
theorem model_B (a0 a1 : Option Addr) (len0 cap0 len1 cap1 : Nat) (I T : Nat → Int) (x s : Int) (w : World) (hI : ∀ i, 0 ≤ I i ∧ I i ≤ 255) (hT : ∀ i, -2147483648 ≤ T i ∧ T i ≤ 2147483647) (x0 : 0 ≤ x) (x1 : x ≤ 255) (s0 : -2147483648 ≤ s) (s1 : s ≤ 2147483647)
    (hl0 : len0 ≤ 1024) (hl1 : len1 ≤ 1024) (hlt : len1 < len0) (V0 : View w a0 .u8 len1 I) (V1 : View w a1 .i32 len1 T) :
    Calls Yba.prog 3 #[.slice a0 len0 cap0, .slice a1 len1 cap1, .int .u8 x, .int .i32 s] w fun e w' => e = .returned (.bool true) ∧ Below w.heap.size w w' := by
  obtain ⟨i0, hi, hz0, hz1, hz2⟩ := info_parts info35'
  have H5 : Hid (Yba.prog.info? 35 = some i0 ∧ i0.zero = some (.agg z35) ∧ i0.size = 67 ∧ i0.bytes = 88) := ⟨hi, hz0, hz1, hz2⟩
  clear hi hz0 hz1 hz2
  go_enter Yba.func3, Yba.ntmps3
  go_wp2_with (at_make; refine wpList_make_own _ rfl _ _ 25 rfl w.heap.size 35 i0 (.agg z35) 67 Yba.underlying25 H5.out.1 H5.out.2.1 H5.out.2.2.1 .i64 .i64 _ len1 rfl rfl (by omega) (by rw [H5.out.2.2.2]; omega) (by unfold maxLen; omega) (Nat.le_refl _) ?_; intro w1 hown hgrow)
  have hB1 : Below w.heap.size w w1 := (Below.refl _ w).grown hgrow (Nat.le_refl _) (fun k e => by cases e)
  have hbt : Built w1 w.heap.size len1 0 I T := ⟨there_made hown, fun j hj => absurd hj (by omega)⟩
  have hg1 : w.heap.size < w1.heap.size := by
    rcases hown.2 with ⟨e, _⟩ | ⟨g', cap, cur, e, _, hb, _⟩
    · cases e
    · cases e; exact (Array.getElem?_eq_some_iff.1 hb).1
  clear hown hgrow
  go_loopw [10, 11] (fun r i wr => ∃ k : Nat, k ≤ len1 ∧ i = .int .i64 k ∧ r = .slice (some ⟨w.heap.size, 0, none⟩) k len1 ∧ Built wr w.heap.size len1 k I T ∧ Below w.heap.size w wr ∧ w.heap.size < wr.heap.size) (fun _ i _ => len1 - (intOf i).toNat)
  case atStart => exact ⟨0, Nat.zero_le _, rfl, rfl, hbt, hB1, hg1⟩
  case round =>
    obtain ⟨k, hk, rfl, rfl, hbd, hnx, hgl⟩ := hrel
    clear hbt hB1 hg1
    by_cases hlk : k < len1
    · obtain ⟨b0, f0, rfl, hb0, hc0⟩ := V0 (by omega)
      obtain ⟨b1, f1, rfl, hb1, hc1⟩ := V1 (by omega)
      have c0 : wr.cell? ⟨b0, f0 + k, none⟩ = some (.int .u8 (I k)) := (hnx.cell (p := ⟨b0, f0 + k, none⟩) hb0).trans (hc0 k hlk)
      have c1 : wr.cell? ⟨b1, f1 + k, none⟩ = some (.int .i32 (T k)) := (hnx.cell (p := ⟨b1, f1 + k, none⟩) hb1).trans (hc1 k hlk)
      have hi0 := hI k
      have hi1 := hT k
      have l1 := idc_length
      have l2 := tmc_length
      have l3 := zero35
      have l4 := z35_size
      have l5 := fold64
      have l6 := fold67
      have u0 : (0 : Int) ≤ (k : Int) := by omega
      have u1 : (k : Int) < (len0 : Int) := by omega
      have u2 : (k : Int) < (len1 : Int) := by omega
      have HV : Hid (Built wr w.heap.size len1 k I T) := hbd
      clear hbd
      have N0 : Hid (Below w.heap.size w wr) := hnx
      have ne0 : b0 ≠ w.heap.size := by omega
      have ne1 : b1 ≠ w.heap.size := by omega
      clear hnx hb0 hb1 hc0 hc1 V0 V1 hgl
      go_wp2
      go_region_held3 (fun w' => w'.cell? ⟨b0, f0 + k, none⟩ = some (.int .u8 (I k)) ∧ w'.cell? ⟨b1, f1 + k, none⟩ = some (.int .i32 (T k))) (first | (exact ⟨cell_far (cell_later ((Below.refl _ w3).alloc (Nat.le_refl _) _) e0) ne0, cell_far (cell_later ((Below.refl _ w3).alloc (Nat.le_refl _) _) e1) ne1⟩) | go_keep)
        (first
          | (go_at_call 5; refine (id_peer _ _ hi0.1 hi0.2).mono ?_; rintro e w2 ⟨rfl, hb2⟩; have d0 := cell_later hb2 (a := ⟨b0, f0 + k, none⟩) (v := .int .u8 (I k)) c0; have d1 := cell_later hb2 (a := ⟨b1, f1 + k, none⟩) (v := .int .i32 (T k)) c1; have HV2 : Hid (Built w2 w.heap.size len1 k I T) := HV.out.drew.below hb2; have N2 : Hid (Below w.heap.size w w2) := N0.out.drew.trans (hb2.mono N0.out.size); clear hb2 HV N0)
          | (go_at_call 6; refine (at_peer _ _ hi1.1 hi1.2).mono ?_; rintro e w3 ⟨rfl, hb3⟩; have e0 := cell_later hb3 d0; have e1 := cell_later hb3 d1; have HV3 : Hid (Built w3 w.heap.size len1 k I T) := HV2.out.below hb3; have N3 : Hid (Below w.heap.size w w3) := N2.out.trans (hb3.mono N2.out.size); clear hb3 HV2 N2)
          | (refine step_append_room (by rfl) _ _ 25 (by rfl) 35 i0 67 Yba.underlying25 H5.out.1 H5.out.2.2.1 w.heap.size 0 k len1 (by rfl) ⟨w3.heap.size, 0, none⟩ 1 1 (pcs (peer I T k)) (by rfl) (by rw [pcs_length]) (World.news_of_block (cs := (pcs (peer I T k)).toArray) (t := 35) (fr := (0, 0)) (heap_alloc_new w3 _)) (pcs_one _) (by omega) (by rw [pcs_length]; exact (HV3.out.alloc _).spare hlk) ?_))
      obtain ⟨w4, hw4⟩ : ∃ w4, (w3.alloc (.cells (idc ((bid (I k)).toNat : Int) ++ tmc (T k)).toArray 35)).setCells w.heap.size (0 + k * 67) (pcs (peer I T k)) = w4 := ⟨_, rfl⟩
      have R : Hid (Built w4 w.heap.size len1 (k + 1) I T ∧ Below w.heap.size w w4 ∧ w.heap.size < w4.heap.size) := by
        have hb4 : Below w.heap.size w w4 := by rw [← hw4]; exact below_setCells (Nat.le_refl _) _ _ (N3.out.alloc N3.out.size _)
        have hbt : Built w4 w.heap.size len1 (k + 1) I T := by rw [← hw4]; exact (HV3.out.alloc _).step hlk
        exact ⟨hbt, hb4, block_lt_of_cell (hbt.cells 0 (by omega) 0 _ rfl)⟩
      rw [hw4]
      clear hw4 HV3 N3 e0 e1 d0 d1 l1 l2 l3 l4 l5 l6 c0 c1
      go_wp2
      go_roundw
      case rel => exact ⟨k + 1, by omega, by go_num, rfl, R.out.1, R.out.2.1, R.out.2.2⟩
      case measure => simp [intOf]; omega
    · obtain rfl : k = len1 := by omega
      have N0 : Hid (Below w.heap.size w wr ∧ Built wr w.heap.size k k I T) := ⟨hnx, hbd⟩
      clear hbd
      go_wp2
      go_loop [12, 13] (fun jv i => ∃ m : Nat, m ≤ k ∧ i = .int .i64 m ∧ jv = .int .i64 (lastB T s m)) (fun _ i => k - (intOf i).toNat)
      case atStart => exact ⟨0, Nat.zero_le _, rfl, rfl⟩
      case round =>
        obtain ⟨m, hm, rfl, rfl⟩ := hrel
        by_cases hmk : m < k
        · obtain ⟨b1, f1, rfl, hb1, hc1⟩ := V1 (by omega)
          have c1 : wr.cell? ⟨b1, f1 + m, none⟩ = some (.int .i32 (T m)) := (hnx.cell (p := ⟨b1, f1 + m, none⟩) hb1).trans (hc1 m hmk)
          clear hc1 V0 V1 hnx
          by_cases ht : T m < s
          · go_wp2
            go_round
            case rel => exact ⟨m + 1, by omega, by go_num, by rw [lastB, if_pos ht]⟩
            case measure => simp [intOf]; omega
          · have ht' : s ≤ T m := by omega
            go_wp2
            go_round
            case rel => exact ⟨m + 1, by omega, by go_num, by rw [lastB, if_neg (by omega)]⟩
            case measure => simp [intOf]; omega
        · obtain rfl : m = k := by omega
          have hlb := lastB_bd T s m
          obtain ⟨q, hq⟩ : ∃ q, q = lastB T s m := ⟨_, rfl⟩
          rw [← hq] at hlb ⊢
          have HQ : Hid (q = lastB T s m) := hq
          clear hq
          go_wp2
          go_loop [14, 15] (fun ev i => ∃ p : Nat, q + 1 ≤ p ∧ p ≤ m ∧ i = .int .i64 p ∧ ev = .bool (anyB I x (q + 1) p)) (fun _ i => m - (intOf i).toNat)
          case atStart => exact ⟨(q + 1).toNat, by omega, by omega, by go_num, by rw [anyB_none I x (q + 1) _ (by omega)]⟩
          case round =>
            obtain ⟨p, hp0, hp1, rfl, rfl⟩ := hrel
            by_cases hpk : p < m
            · obtain ⟨b0, f0, rfl, hb0, hc0⟩ := V0 (by omega)
              have c0 : wr.cell? ⟨b0, f0 + p, none⟩ = some (.int .u8 (I p)) := (hnx.cell (p := ⟨b0, f0 + p, none⟩) hb0).trans (hc0 p hpk)
              have hi0 := hI p
              clear hc0 V0 V1 hnx hI hT
              have hst : anyB I x (q + 1) (p + 1) = (anyB I x (q + 1) p || (I p % 4 == x % 4)) := by rw [anyB, decide_eq_true (by omega), Bool.true_and]
              have HS : Hid (anyB I x (q + 1) (p + 1) = (anyB I x (q + 1) p || (I p % 4 == x % 4))) := hst
              clear hst
              by_cases he : (I p % 4 == x % 4) = true
              · go_wp2
                go_round
                case rel => exact ⟨p + 1, by omega, by omega, by go_num, by rw [HS.out, he, Bool.or_true]⟩
                case measure => simp [intOf]; omega
              · have he' : (I p % 4 == x % 4) = false := by simpa using he
                clear he
                go_wp2
                go_round
                case rel => exact ⟨p + 1, by omega, by omega, by go_num, by rw [HS.out, he', Bool.or_false]⟩
                case measure => simp [intOf]; omega
            · obtain rfl : p = m := by omega
              clear hnx hI hT V0 V1
              go_wp2_with fail
              refine (id_peer x wr x0 x1).mono ?_
              rintro e w5 ⟨rfl, hb5⟩
              go_wp2_with fail
              refine (at_peer s w5 s0 s1).mono ?_
              rintro e w6 ⟨rfl, hb6⟩
              go_wp2_with fail
              have hb56 : Below wr.heap.size wr w6 := hb5.trans (hb6.mono hb5.size)
              refine (has_peers w.heap.size p p I T x s w6 (by have := hb56.size; omega) (N0.out.2.below hb56) (by omega)).mono ?_
              rintro e w7 ⟨rfl, hb7⟩
              rw [← HQ.out]
              have N7 : Hid (Below w.heap.size w w7) := N0.out.1.trans ((hb56.trans (hb7.mono hb56.size)).mono (by omega))
              clear hb5 hb6 hb7 hb56
              go_wp2
              go_ret
              exact ⟨by simp, N7.out⟩
end Go.Proofs.Ybulkbbkq
