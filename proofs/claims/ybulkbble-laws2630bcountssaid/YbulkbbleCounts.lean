/-
  The walk of LawS2630BCounts.
-/
import Derived.Test.YbulkbbleBuild
import Derived.Test.YbulkbbleCache
import Derived.Outline
namespace Go.Proofs.Ybulkbble
open Go.RowKit Go.Lib
theorem info3 : (Yba.prog.info? 3).map (fun i => (i.zero, i.size, i.bytes)) = some (some (.int .i64 0), 1, 8) := by kernel_rfl
/-- the bounds as cells -/
def bcs (P : Nat → Int) (k : Nat) : List Value := (List.range k).map fun j => .int .i64 (bo P j)
theorem bcs_succ (P : Nat → Int) (k : Nat) : bcs P (k + 1) = bcs P k ++ [.int .i64 (bo P k)] := by simp [bcs, List.range_succ]
theorem bcs_get (P : Nat → Int) (k j : Nat) (h : j < k) : (bcs P k)[j]? = some (.int .i64 (bo P j)) := by
  simp [bcs, List.getElem?_range h]
theorem row_kept {w w' : World} {base g n cap bb : Nat} {xs : List Value} (h : w.ownsRow base 3 1 (.slice (some ⟨g, 0, none⟩) n cap) n xs) (hk : Lib.OthersKept 5 (some bb) w w') (hne : g ≠ bb) :
    w'.ownsRow base 3 1 (.slice (some ⟨g, 0, none⟩) n cap) n xs := by
  refine ⟨h.1, ?_⟩
  rcases h.2 with ⟨e, _⟩ | ⟨g', cap', cur, e, hge, hb, rest⟩
  · cases e
  · cases e
    exact .inr ⟨g, cap, cur, rfl, hge, hk g _ hb (fun e => hne (by cases e; rfl)) (fun c fz e => by cases e), rest⟩
theorem isB_kept {w w' : World} {B b g : Nat} {bs : List Value} {C : Array Value} {fr : Nat × Nat} (h : Lib.IsBuilderF 25 5 B b bs w) (hg : w.grownBy w' (some g)) (hgb : w.heap[g]? = some (.cells C 3 fr)) : Lib.IsBuilderF 25 5 B b bs w' := by
  have key : ∀ p, Lib.BuilderAtF 25 5 B b p bs w → Lib.BuilderAtF 25 5 B b p bs w' := fun p hp => by
    obtain ⟨hB, v, hb, hown, hne⟩ := hp
    have hlt : b < w.heap.size := (Array.getElem?_eq_some_iff.1 hb).1
    have hbg : b ≠ g := fun e => by rw [e, hgb] at hb; simp at hb
    refine ⟨hB, v, (hg.block b hlt (fun e => hbg (by cases e; rfl))).trans hb, hown.kept hg (.inr ?_), hne⟩
    intro e
    rcases hown.2 with ⟨rfl, _⟩ | ⟨g', cap, cur, fz, rfl, _, hg', _⟩
    · cases e
    · cases e
      rw [hgb] at hg'
      simp at hg'
  exact h.elim (fun x => .inl (key _ x)) (fun x => .inr (key _ x))
theorem isB_alloc {w : World} {B b : Nat} {bs : List Value} (h : Lib.IsBuilderF 25 5 B b bs w) (o : Obj) : Lib.IsBuilderF 25 5 B b bs (w.alloc o) := h.elim (fun x => .inl (x.alloc o)) (fun x => .inr (x.alloc o))
theorem isB_none {w w' : World} {B b : Nat} {bs : List Value} (h : Lib.IsBuilderF 25 5 B b bs w) (hg : w.grownBy w' none) : Lib.IsBuilderF 25 5 B b bs w' := by
  have key : ∀ p, Lib.BuilderAtF 25 5 B b p bs w → Lib.BuilderAtF 25 5 B b p bs w' := fun p hp => by
    obtain ⟨hB, v, hb, hown, hne⟩ := hp
    have hlt : b < w.heap.size := (Array.getElem?_eq_some_iff.1 hb).1
    refine ⟨hB, v, (hg.block b hlt (fun e => by cases e)).trans hb, ?_, hne⟩
    by_cases e : v.ownBlock = none
    · exact hown.kept hg (.inl e)
    · exact hown.kept hg (.inr e)
  exact h.elim (fun x => .inl (key _ x)) (fun x => .inr (key _ x))
theorem own_blk {w : World} {base g n cap : Nat} {xs : List Value} (h : w.ownsRow base 3 1 (.slice (some ⟨g, 0, none⟩) n cap) n xs) : ∃ C, w.heap[g]? = some (.cells C 3 (0, 0)) := by
  rcases h.2 with ⟨e, _⟩ | ⟨g', cap', cur, e, hge, hb, rest⟩
  · cases e
  · cases e
    exact ⟨cur, hb⟩
theorem after_pos {w wr w5 : World} {bl k : Nat} {P : Nat → Int} (h : (∀ m, m ≤ k → wr.cell? ⟨w.heap.size + 1, m, none⟩ = some (.int .i64 (bo P m))) ∧ Below w.heap.size w wr) (hg : wr.grownBy w5 (some bl)) (hb : w.heap.size + 1 < bl) :
    (∀ m, m ≤ k → w5.cell? ⟨w.heap.size + 1, m, none⟩ = some (.int .i64 (bo P m))) ∧ Below w.heap.size w w5 := by
  refine ⟨fun m hm => ?_, h.2.grown hg h.2.size (fun j e => by cases e; omega)⟩
  exact hg.cell (h.1 m hm) (fun e => absurd (Option.some.inj e : w.heap.size + 1 = bl) (by omega))
theorem one_cells (w : World) (z : Int) : ∀ (j : Nat) (u : Value), [Value.int .i64 z][j]? = some u → (w.alloc (.cells #[.int .i64 z] 3)).cell? ((⟨w.heap.size, 0, none⟩ : Addr).add j) = some u := by
  intro j u hu
  cases j with
  | zero =>
    cases hu
    show (w.alloc (.cells #[.int .i64 z] 3)).cell? ⟨w.heap.size, 0, none⟩ = _
    rw [Lib.cell_of_heap (heap_alloc_new w _)]
    rfl
  | succ j => simp at hu
theorem one_one (z : Int) : ∀ u ∈ [Value.int .i64 z], u.oneCell' = true := by
  intro u hu
  rw [List.mem_singleton.1 hu]
  rfl
set_option maxRecDepth 100000 in
set_option maxHeartbeats 2000000 in
theorem counts_walk (a0 : Option Addr) (len0 cap0 : Nat) (a1 : Option Addr) (len1 cap1 : Nat) (P I : Nat → Int) (w : World) (hP : ∀ i, 0 ≤ P i ∧ P i ≤ 255) (hI : ∀ i, 0 ≤ I i ∧ I i ≤ 255) (hl0 : len0 ≤ 1024) (hl1 : len1 ≤ 1024) (V0 : View w a0 .u8 len0 P) (V1 : View w a1 .u8 len1 I) :
    Calls Yba.prog 3 #[.slice a0 len0 cap0, .slice a1 len1 cap1] w fun e w' => e = .returned (.bool true) ∧ Below w.heap.size w w' := by
  obtain ⟨i0, hi, hz0, hz1, hz2⟩ := info_parts info3
  have H3 : Hid (Yba.prog.info? 3 = some i0 ∧ i0.zero = some (.int .i64 0) ∧ i0.size = 1 ∧ i0.bytes = 8) := ⟨hi, hz0, hz1, hz2⟩
  clear hi hz0 hz1 hz2
  go_enter Yba.func3, Yba.ntmps3
  go_wp2_with (first | (at_make; refine wpList_make_own _ rfl _ _ 26 rfl w.heap.size 3 i0 (.int .i64 0) 1 Yba.underlying26 H3.out.1 H3.out.2.1 H3.out.2.2.1 .i64 .i64 _ (len0 + 1) rfl rfl (by omega) (by rw [H3.out.2.2.2]; omega) (by unfold maxLen; omega) (by simp) ?_; intro w1 hown0 hgrow; have hown : w1.ownsRow w.heap.size 3 1 (.slice (some ⟨w.heap.size + 1, 0, none⟩) 0 (len0 + 1)) 0 [] := (by rw [World.size_alloc] at hown0; exact hown0)) | (at_builtin; refine wpList_append_fits _ rfl (.tmp 26) (.tmp 27) 26 rfl w.heap.size 3 i0 1 Yba.underlying26 H3.out.1 H3.out.2.2.1 (w.heap.size + 1) 0 (len0+1) [] rfl (hown.alloc _) ⟨w1.heap.size,0,none⟩ 1 1 [.int .i64 0] rfl rfl ?hcells ?hone (by omega) ?_))
  case hcells => exact one_cells w1 0
  case hone => exact one_one 0
  intro w2 hown2 hgrow2
  have HX : Hid (w2.ownsRow w.heap.size 3 1 (.slice (some ⟨w.heap.size + 1, 0, none⟩) 1 (len0 + 1)) 1 (bcs P 1) ∧ IsBuilderF 25 5 w.heap.size w.heap.size (byteCells (txt P 0)) w2 ∧ Below w.heap.size w w2) := by
    have hb1 : Below w.heap.size w w1 := Below.grown ((Below.refl _ _).alloc (Nat.le_refl _) _) hgrow (by simp) (fun j hj => by cases hj)
    have hf := IsBuilderF.of (fresh_isBuilder 25 5 w)
    have hf1 : IsBuilderF 25 5 w.heap.size w.heap.size [] w1 := isB_none hf hgrow
    obtain ⟨C, hC2⟩ := own_blk (hown.alloc (.cells #[.int .i64 0] 3))
    refine ⟨hown2, isB_kept (isB_alloc hf1 _) hgrow2 hC2, ?_⟩
    exact Below.grown (hb1.alloc hb1.size _) hgrow2 (by have := hb1.size; simp; omega) (fun j hj => by cases hj; omega)
  clear hown2 hgrow2 hown hown0 hgrow
  go_wp2
  go_loopw [6, 31] (fun v i wr => ∃ k : Nat, k ≤ len0 ∧ i = .int .i64 k ∧ v = .slice (some ⟨w.heap.size + 1, 0, none⟩) (k + 1) (len0 + 1) ∧ wr.ownsRow w.heap.size 3 1 (.slice (some ⟨w.heap.size + 1, 0, none⟩) (k + 1) (len0 + 1)) (k + 1) (bcs P (k + 1)) ∧ IsBuilderF 25 5 w.heap.size w.heap.size (byteCells (txt P k)) wr ∧ Below w.heap.size w wr) (fun _ i _ => len0 - (RowKit.intOf i).toNat)
  case atStart => exact ⟨0, Nat.zero_le _, rfl, rfl, HX.out⟩
  case round =>
    clear HX
    obtain ⟨k, hk, rfl, rfl, hR1⟩ := hrel
    by_cases hlk : k < len0
    · obtain ⟨b1, f1, rfl, hb1, hc1⟩ := V0 (by omega)
      have c1 : wr.cell? ⟨b1, f1 + k, none⟩ = some (.int .u8 (P k)) := (hR1.2.2.cell (p := ⟨b1, f1 + k, none⟩) hb1).trans (hc1 k hlk)
      have hi0 := hP k
      have hR : Hid (_) := hR1
      clear hc1 V0 hR1 V1
      go_wp2_with fail
      refine (piece_any (P k) wr hi0.1 hi0.2).mono ?_
      rintro e w3 ⟨rfl, rfl⟩
      go_wp2_with fail
      have hsz : (⟨(pieceL (P k)).toArray⟩ : ByteArray).size = (pieceL (P k)).length := by show (pieceL (P k)).toArray.size = _; simp
      have hbk := bo_le P k
      have hpl := piece_len (P k)
      refine (write_any w.heap.size w.heap.size _ ⟨(pieceL (P k)).toArray⟩ _ hR.out.2.1 (by rw [byteCells_length, hsz]; show bo P k + _ ≤ _; omega) hR.out.2.2.size).mono ?_
      rintro e w4 ⟨rfl, hB4, hb4, hk4⟩
      have HY : Hid (w4.ownsRow w.heap.size 3 1 (.slice (some ⟨w.heap.size + 1, 0, none⟩) (k + 1) (len0 + 1)) (k + 1) (bcs P (k + 1)) ∧ IsBuilderF 25 5 w.heap.size w.heap.size (byteCells (txt P (k + 1))) w4 ∧ Below w.heap.size w w4) := by
        refine ⟨row_kept hR.out.1 hk4 (by omega), .inr ?_, hR.out.2.2.trans hb4⟩
        rw [txt, byteCells_append]
        exact hB4
      clear hR hB4 hb4 hk4 c1
      go_wp2_with fail
      refine (Yba.Builder_Len_f w.heap.size w.heap.size _ w4 HY.out.2.1).mono ?_
      rintro e w5 ⟨rfl, rfl⟩
      rw [byteCells_length, show (txt P (k + 1)).length = bo P (k + 1) from rfl]
      go_wp2_with (at_builtin; refine wpList_append_fits _ rfl (.tmp 38) (.tmp 40) 26 rfl w.heap.size 3 i0 1 Yba.underlying26 H3.out.1 H3.out.2.2.1 (w.heap.size + 1) (k + 1) (len0 + 1) (bcs P (k + 1)) rfl (HY.out.1.alloc _) ⟨w5.heap.size, 0, none⟩ 1 1 [.int .i64 (bo P (k + 1))] rfl rfl ?hcells ?hone (by omega) ?_)
      case hcells => exact one_cells w5 _
      case hone => exact one_one _
      intro w6 hown6 hgrow6
      have HZ : Hid (w6.ownsRow w.heap.size 3 1 (.slice (some ⟨w.heap.size + 1, 0, none⟩) (k + 1 + 1) (len0 + 1)) (k + 1 + 1) (bcs P (k + 1 + 1)) ∧ IsBuilderF 25 5 w.heap.size w.heap.size (byteCells (txt P (k + 1))) w6 ∧ Below w.heap.size w w6) := by
        obtain ⟨C, hC2⟩ := own_blk (HY.out.1.alloc (.cells #[.int .i64 (bo P (k + 1))] 3))
        refine ⟨by rw [bcs_succ]; exact hown6, isB_kept (isB_alloc HY.out.2.1 _) hgrow6 hC2, ?_⟩
        exact Below.grown (HY.out.2.2.alloc HY.out.2.2.size _) hgrow6 (by have := HY.out.2.2.size; simp; omega) (fun j hj => by cases hj; omega)
      clear hown6 hgrow6 HY
      go_wp2
      go_roundw
      case rel => exact ⟨k + 1, by omega, by go_num, rfl, HZ.out⟩
      case measure => simp [RowKit.intOf]; omega
    · obtain rfl : k = len0 := by omega
      have hR : Hid (_) := hR1
      clear V0 hR1
      go_wp2_with fail
      refine (Yba.Builder_String_any_k w.heap.size w.heap.size _ wr hR.out.2.1 hR.out.2.2.size).mono ?_
      rintro e w3 ⟨rfl, _, hb3, hk3⟩
      have hc3 : Hid (∀ j, j ≤ k → w3.cell? ⟨w.heap.size + 1, j, none⟩ = some (.int .i64 (bo P j))) := by
        intro j hj
        rw [(row_kept hR.out.1 hk3 (by omega)).cellAt j (by omega)]
        exact bcs_get P (k + 1) j (by omega)
      have hB3 : Hid (Below w.heap.size w w3 ∧ w.heap.size + 1 < w3.heap.size) := ⟨hR.out.2.2.trans hb3, by obtain ⟨C, hC⟩ := own_blk (row_kept hR.out.1 hk3 (by omega)); exact (Array.getElem?_eq_some_iff.1 hC).1⟩
      clear hb3 hk3 hR
      go_wp2_with fail
      have hsz0 : (⟨(txt P k).toArray⟩ : ByteArray).size = bo P k := by show (txt P k).toArray.size = _; simp [bo]
      have hcn0 : ∀ i, i ≤ k → cnt ⟨(txt P k).toArray⟩ (bo P i) = i := fun i hi => counts_law P i k hi
      have hbk := bo_le P k
      obtain ⟨s, hs⟩ : ∃ s : ByteArray, (⟨(txt P k).toArray⟩ : ByteArray) = s := ⟨_, rfl⟩
      rw [hs] at hsz0 hcn0 ⊢
      have hcnt : Hid (∀ i, i ≤ k → cnt s (bo P i) = i) := hcn0
      clear hs hcn0
      refine (new_any s w3 (by omega)).mono ?_
      rintro e w4 ⟨n, hn, ha, rfl, hb4⟩
      have hz4 := hb4.size
      have HL : Hid ((∀ j, j < n → bt s j < 128) ∧ Below w3.heap.size w3 w4) := ⟨ha, hb4⟩
      clear ha hb4
      go_wp2
      have hL0 := lex_new w4 s n hn HL.out.1
      have hB0 : Below w3.heap.size w3 (w4.alloc (.cells #[.string s, .int .i64 0, .string ⟨#[]⟩, .int .i64 n, .int .i64 n, .int .i64 n, .string ⟨#[]⟩, .bool false] 34)) := HL.out.2.alloc hz4 _
      obtain ⟨bl, hbld⟩ : ∃ bl, w4.heap.size = bl := ⟨_, rfl⟩
      obtain ⟨W0, hW0⟩ : ∃ W0, w4.alloc (.cells #[.string s, .int .i64 0, .string ⟨#[]⟩, .int .i64 n, .int .i64 n, .int .i64 n, .string ⟨#[]⟩, .bool false] 34) = W0 := ⟨_, rfl⟩
      rw [hW0, hbld] at hL0
      rw [hW0] at hB0
      rw [hW0, hbld]
      have hbl : w3.heap.size ≤ bl := by omega
      have HC : Hid (LexAt W0 bl s n n ∧ (∀ j, j ≤ k → W0.cell? ⟨w.heap.size + 1, j, none⟩ = some (.int .i64 (bo P j))) ∧ Below w.heap.size w W0) :=
        ⟨hL0, fun j hj => (hB0.cell (p := ⟨w.heap.size + 1, j, none⟩) hB3.out.2).trans (hc3.out j hj), hB3.out.1.trans (hB0.mono hB3.out.1.size)⟩
      have hblw : w.heap.size + 1 < bl := Nat.lt_of_lt_of_le hB3.out.2 hbl
      clear hW0 hbld hz4 HL hL0 hB0 hc3 hB3 hbl
      go_loopw [10, 47] (fun v i wq => ∃ j ix c : Nat, j ≤ len1 ∧ ix ≤ k ∧ i = .int .i64 j ∧ v = .int .i64 ix ∧ LexAt wq bl s n c ∧ (c = n ∨ c ≤ bo P ix) ∧ (∀ m, m ≤ k → wq.cell? ⟨w.heap.size + 1, m, none⟩ = some (.int .i64 (bo P m))) ∧ Below w.heap.size w wq) (fun _ i _ => len1 - (RowKit.intOf i).toNat)
      case atStart => exact ⟨0, 0, n, Nat.zero_le _, Nat.zero_le _, rfl, rfl, HC.out.1, .inl rfl, HC.out.2⟩
      case round =>
        clear HC
        obtain ⟨j, ix, c, hj, hix, rfl, rfl, hL1, hcn, hR1⟩ := hrel
        have hL : Hid (LexAt _ bl s n c ∧ _) := ⟨hL1, hR1⟩
        have hlo := hL1.lo
        by_cases hlj : j < len1
        · obtain ⟨b2, f2, rfl, hb2, hc2⟩ := V1 (by omega)
          have c2 := (hR1.2.cell (p := ⟨b2, f2 + j, none⟩) hb2).trans (hc2 j hlj)
          have hi2 := hI j
          obtain ⟨q, hq⟩ : ∃ q : Nat, I j % 4 = (q : Int) := ⟨(I j % 4).toNat, by omega⟩
          by_cases hgt : k < ix + q
          · have hgt' : (k : Int) < (ix : Int) + I j % 4 := by omega
            have c3 := hR1.1 k (Nat.le_refl _)
            clear hc2 V1 hR1 hL1 hI hq
            go_wp2_with fail
            have hm := bo_mono P ix k hix
            refine (pos_any s bl n c (bo P k) wr hL.out.1 (by omega) (by omega) (by omega)).mono ?_
            rintro e w5 ⟨rfl, ⟨c', hl5, hc'⟩, hg5⟩
            rw [hcnt.out k (Nat.le_refl _)]
            have HF : Hid (LexAt w5 bl s n c' ∧ (∀ m, m ≤ k → w5.cell? ⟨w.heap.size + 1, m, none⟩ = some (.int .i64 (bo P m))) ∧ Below w.heap.size w w5) := ⟨hl5, after_pos hL.out.2 hg5 hblw⟩
            clear hl5 hg5 hL c2 c3
            go_wp2
            go_roundw
            case rel => exact ⟨j + 1, k, c', by omega, Nat.le_refl _, by go_num, rfl, HF.out.1, by omega, HF.out.2⟩
            case measure => simp [RowKit.intOf]; omega
          · have hgt' : (ix : Int) + I j % 4 ≤ (k : Int) := by omega
            obtain ⟨o2, hov2⟩ : ∃ o2 : Nat, (ix : Int) + I j % 4 = (o2 : Int) := ⟨ix + q, by omega⟩
            have ho2 : o2 ≤ k := by omega
            have ho3 : ix ≤ o2 := by omega
            have c3 := hR1.1 o2 ho2
            clear hc2 V1 hR1 hL1 hI hq hgt hgt'
            go_wp2_with fail
            have hm := bo_mono P ix o2 ho3
            have hm2 := bo_mono P o2 k ho2
            refine (pos_any s bl n c (bo P o2) wr hL.out.1 (by omega) (by omega) (by omega)).mono ?_
            rintro e w5 ⟨rfl, ⟨c', hl5, hc'⟩, hg5⟩
            rw [hcnt.out o2 ho2]
            have HF : Hid (LexAt w5 bl s n c' ∧ (∀ m, m ≤ k → w5.cell? ⟨w.heap.size + 1, m, none⟩ = some (.int .i64 (bo P m))) ∧ Below w.heap.size w w5) := ⟨hl5, after_pos hL.out.2 hg5 hblw⟩
            clear hl5 hg5 hL c2 c3
            go_wp2
            go_roundw
            case rel => exact ⟨j + 1, o2, c', by omega, ho2, by go_num, rfl, HF.out.1, by omega, HF.out.2⟩
            case measure => simp [RowKit.intOf]; omega
        · obtain rfl : j = len1 := by omega
          have c3 := hR1.1 k (Nat.le_refl _)
          clear V1 hR1 hL1 hI
          go_wp2_with fail
          have hm := bo_mono P ix k hix
          refine (pos_any s bl n c (bo P k) wr hL.out.1 (by omega) (by omega) (by omega)).mono ?_
          rintro e w5 ⟨rfl, _, hg5⟩
          rw [hcnt.out k (Nat.le_refl _)]
          have HF : Hid (Below w.heap.size w w5) := (after_pos hL.out.2 hg5 hblw).2
          clear hg5 hL c3
          go_wp2
          go_ret
          exact ⟨by simp, HF.out⟩
end Go.Proofs.Ybulkbble
