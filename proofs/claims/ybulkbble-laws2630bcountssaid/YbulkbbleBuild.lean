/-
  strings.Builder written on (copyCheck, WriteString, walked in this program); the pieces; the plain law on the count of characters.
-/
import Derived.Test.YbulkbbleLexer
import Derived.Test.YbulkbbleShelf
import Derived.Lib.Builder
import Derived.Laws.Externs
namespace Go.Proofs.Ybulkbble
open Go.RowKit Go.Lib
theorem size25 : (Yba.prog.info? 25).map (·.size) = some 2 := by kernel_rfl
theorem lies25 : liesAt Yba.prog Yba.prog.depth 25 (2 / Yba.prog.cellsOf 25) 0 25 1 = true := by kernel_rfl
theorem infoByte : (Yba.prog.info? 5).map (fun i => (i.zero, i.size, i.bytes)) = some (some (.int .u8 0), 1, 1) := by kernel_rfl
theorem copy_used (b : Nat) (w : World) (h0 : w.cell? ⟨b, 0, none⟩ = some (.pointer (some ⟨b, 0, none⟩))) :
    Calls Yba.prog 11 #[.pointer (some ⟨b, 0, none⟩)] w fun e w' => e = .returned (.tuple #[]) ∧ w' = w := by
  obtain ⟨j, hj, _⟩ := Option.map_eq_some_iff.1 size25
  have hn := fun (w : World) => Lib.run_neq_ptr_same w ⟨b, 0, none⟩ Yba.underlying23 hj
  clear hj
  go_enter Yba.func11, Yba.ntmps11
  go_wp2
  go_end0
  exact ⟨rfl, rfl⟩
/-- a builder's pointer to its bare address .. -/
theorem ptr_out (b : Nat) (w : World) {j : TypeInfo} (hj : Yba.prog.info? 25 = some j) (hjs : j.size = 2) (hsh : w.shape? b = some (25, 2)) :
    (convert 23 42 (.pointer (some ⟨b, 0, none⟩))).run Yba.prog w = .ok (.pointer (some ⟨b, 0, none⟩)) w := by
  simp [convert, run_underlying Yba.underlying23, run_underlying Yba.underlying42, Conv.unsafePointer, Conv.seenAt, viewAt, cellsIn, hsh, sizeOf, typeInfo, hj, hjs]
/-- .. and back -/
theorem ptr_in (b : Nat) (w : World) {j : TypeInfo} (hj : Yba.prog.info? 25 = some j) (hsh : w.shape? b = some (25, 2)) :
    (convert 42 23 (.pointer (some ⟨b, 0, none⟩))).run Yba.prog w = .ok (.pointer (some ⟨b, 0, none⟩)) w := by
  simp [convert, run_underlying Yba.underlying42, run_underlying Yba.underlying23, Conv.unsafePointer, Conv.seenAt, viewAt, hsh, variablesAt, lies25, sizeOf, typeInfo, hj]
set_option maxRecDepth 100000 in
theorem copy_fresh (b : Nat) (w : World) (h0 : w.cell? ⟨b, 0, none⟩ = some (.pointer none)) (hsh : w.shape? b = some (25, 2)) (hfz : w.frozen? ⟨b, 0, none⟩ = false) :
    Calls Yba.prog 11 #[.pointer (some ⟨b, 0, none⟩)] w fun e w' => e = .returned (.tuple #[]) ∧ w' = w.setCell ⟨b, 0, none⟩ (.pointer (some ⟨b, 0, none⟩)) := by
  obtain ⟨j, hj, hjs⟩ := Option.map_eq_some_iff.1 size25
  go_enter Yba.func11, Yba.ntmps11
  go_wp2
  rw [ptr_out b w hj hjs hsh]
  simp only [Result.andThen]
  rw [Oper.upon_value]
  go_wp2
  rw [run_callFunc_extern Yba.func12 (by kernel_rfl) (by kernel_rfl) (by kernel_rfl) (e := Extern.AbiNoEscape.same) (by kernel_rfl)]
  rw [Lib.run_noEscape]
  simp only [Result.andThen]
  rw [Oper.upon_value]
  go_wp2
  rw [ptr_in b w hj hsh]
  simp only [Result.andThen]
  rw [Oper.upon_value]
  go_wp2
  go_end0
  exact ⟨rfl, rfl⟩
theorem copy_any (B b : Nat) (bs : List Value) (w : World) (h : Lib.IsBuilderF 25 5 B b bs w) :
    Calls Yba.prog 11 #[.pointer (some ⟨b, 0, none⟩)] w fun e w' => e = .returned (.tuple #[]) ∧ (Lib.BuilderAtF 25 5 B b (.pointer (some ⟨b, 0, none⟩)) bs w' ∧ Below B w w' ∧ Lib.OthersKept 5 (some b) w w') := by
  rcases h with h | h
  · refine (copy_fresh b w h.cell0 h.shape h.frozen0).mono ?_
    rintro e w' ⟨rfl, rfl⟩
    exact ⟨rfl, h.used _, (Below.refl B w).setCell (p := ⟨b, 0, none⟩) h.1 _, (Lib.OthersKept.refl _ _ w).setCell ⟨b, 0, none⟩ rfl _⟩
  · refine (copy_used b w h.cell0).mono ?_
    rintro e w' ⟨rfl, rfl⟩
    exact ⟨rfl, h, Below.refl B _, Lib.OthersKept.refl _ _ _⟩
set_option maxHeartbeats 1000000 in
set_option maxRecDepth 100000 in
theorem write_any (B b : Nat) (bs : List Value) (s : ByteArray) (w : World) (h : Lib.IsBuilderF 25 5 B b bs w) (hlen : bs.length + s.size ≤ 140737488355328) (hBw : B ≤ w.heap.size) :
    Calls Yba.prog 5 #[.pointer (some ⟨b, 0, none⟩), .string s] w fun e w' => e = .returned (.tuple #[.int .i64 s.size, .nilIface]) ∧ (Lib.BuilderAtF 25 5 B b (.pointer (some ⟨b, 0, none⟩)) (bs ++ Lib.strCells s) w' ∧ Below B w w' ∧ Lib.OthersKept 5 (some b) w w') := by
  obtain ⟨i0, hi, hz0, hz1, hz2⟩ := info_parts infoByte
  go_enter Yba.func5, Yba.ntmps5
  go_wp2_with (go_at_call 11; refine (copy_any B b bs _ h).mono ?_)
  rintro e w1 ⟨rfl, h1, hb1, hk1⟩
  obtain ⟨hB, v, hbk, hown, hne⟩ := h1
  have c0 : w1.cell? ⟨b, 0, none⟩ = some (.pointer (some ⟨b, 0, none⟩)) := by rw [Lib.cell_of_heap hbk]; rfl
  have c1 : w1.cell? ⟨b, 1, none⟩ = some v := by rw [Lib.cell_of_heap hbk]; rfl
  go_wp2_with (at_builtin; refine Lib.wpList_append_own_stringF _ rfl _ _ 22 9 rfl B 5 i0 Yba.underlying22 Yba.underlying9 hi hz0 hz1 hz2 _ _ _ rfl hown s rfl ?c3 ?c4 ?c5 ?_)
  case c3 => unfold maxLen; omega
  case c4 => omega
  case c5 => have := hb1.size; omega
  intro v' w2 hown' hgrow _
  have hlt : b < w1.heap.size := (Array.getElem?_eq_some_iff.1 hbk).1
  have hb2 : w2.heap[b]? = some (.cells #[.pointer (some ⟨b, 0, none⟩), v] 25 (0, 0)) := by
    rw [hgrow.block b hlt (fun e => hne e.symm)]
    exact hbk
  have d0 : w2.cell? ⟨b, 0, none⟩ = some (.pointer (some ⟨b, 0, none⟩)) := by rw [Lib.cell_of_heap hb2]; rfl
  have d1 : w2.cell? ⟨b, 1, none⟩ = some v := by rw [Lib.cell_of_heap hb2]; rfl
  have f1 : w2.frozen? ⟨b, 1, none⟩ = false := Lib.frozen_of_heap hb2 1
  obtain ⟨ao, n', cap, rfl⟩ : ∃ ao n' cap, v' = .slice ao n' cap := by
    rcases hown'.2 with ⟨hv, _⟩ | ⟨g, cap, cur, fz, hv, _⟩
    · exact ⟨_, _, _, hv⟩
    · exact ⟨_, _, _, hv⟩
  go_wp2
  go_ret2
  refine ⟨rfl, ?_, ?_, (hk1.grown hgrow (Lib.ownsRowF_kind hown)).setCell ⟨b, 1, none⟩ rfl _⟩
  · exact Lib.BuilderAtF.put (T := 25) (e := 5) hB hb2 (bs' := bs ++ Lib.strCells s) (by simpa [Lib.strCells_length] using hown') (by decide)
  · exact (hb1.grown hgrow (by have := hb1.size; omega) (fun k hk => (hown.lt k hk).1)).setCell (p := ⟨b, 1, none⟩) hB _
/-- the characters of the law -/
def pieceL (x : Int) : List UInt8 := if x % 5 = 0 then [97] else if x % 5 = 1 then [195, 169] else if x % 5 = 2 then [226, 130, 172] else if x % 5 = 3 then [240, 159, 152, 128] else [90]
set_option maxHeartbeats 400000 in
theorem piece_any (x : Int) (w : World) (h0 : 0 ≤ x) (h1 : x ≤ 255) :
    Calls Yba.prog 6 #[.int .u8 x] w fun e w' => e = .returned (.string ⟨(pieceL x).toArray⟩) ∧ w' = w := by
  have hr : x % 5 = 0 ∨ x % 5 = 1 ∨ x % 5 = 2 ∨ x % 5 = 3 ∨ x % 5 = 4 := by omega
  rcases hr with c | c | c | c | c
  all_goals
    have e : pieceL x = pieceL x := rfl
    conv at e => rhs; unfold pieceL; rw [c]
    simp only [Int.reduceEq, if_true, if_false] at e
    rw [e]
    clear e
    go_enter Yba.func6, Yba.ntmps6
    go_wp2
    go_ret
    exact ⟨rfl, rfl⟩
/-- the text of the first k pieces -/
def txt (P : Nat → Int) : Nat → List UInt8
  | 0 => []
  | k + 1 => txt P k ++ pieceL (P k)
/-- where piece k begins -/
def bo (P : Nat → Int) (k : Nat) : Nat := (txt P k).length
theorem piece_len (x : Int) : 1 ≤ (pieceL x).length ∧ (pieceL x).length ≤ 4 := by
  unfold pieceL
  repeat (first | (split; · simp) | simp)
theorem bo_succ (P : Nat → Int) (k : Nat) : bo P (k + 1) = bo P k + (pieceL (P k)).length := by simp [bo, txt]
theorem bo_le (P : Nat → Int) : ∀ k, bo P k ≤ 4 * k
  | 0 => by simp [bo, txt]
  | k + 1 => by have := bo_le P k; have := piece_len (P k); rw [bo_succ]; omega
theorem bo_mono (P : Nat → Int) (i : Nat) : ∀ j, i ≤ j → bo P i ≤ bo P j
  | 0, h => by rw [show i = 0 by omega]; exact Nat.le_refl _
  | j + 1, h => by
    by_cases e : i = j + 1
    · rw [e]; exact Nat.le_refl _
    · have := bo_mono P i j (by omega); rw [bo_succ]; omega
/-- characters that begin in a list of bytes -/
def cntL (l : List UInt8) : Int := ((l.filter fun c => chB (c.toNat : Int)).length : Int)
theorem cntL_append (a b : List UInt8) : cntL (a ++ b) = cntL a + cntL b := by simp [cntL, List.filter_append]
theorem cntL_piece (x : Int) : cntL (pieceL x) = 1 := by
  unfold pieceL
  repeat (first | (split; · decide +kernel) | decide +kernel)
theorem cntL_txt (P : Nat → Int) : ∀ k, cntL (txt P k) = k
  | 0 => rfl
  | k + 1 => by rw [txt, cntL_append, cntL_txt P k, cntL_piece]; rfl
theorem cnt_cntL (l : List UInt8) : ∀ k, k ≤ l.length → cnt ⟨l.toArray⟩ k = cntL (l.take k)
  | 0, _ => by simp [cnt, cntL]
  | k + 1, h => by
    have hk : k < (⟨l.toArray⟩ : ByteArray).size := by show k < l.toArray.size; simp; omega
    rw [cnt, cnt_cntL l k (by omega), List.take_succ_eq_append_getElem (by omega), cntL_append]
    have e : bt ⟨l.toArray⟩ k = ((l[k]'(by omega)).toNat : Int) := by
      rw [← bt_eq _ k hk]; rfl
    rw [e]
    congr 1
    unfold cntL
    by_cases hc : chB ((l[k]'(by omega)).toNat : Int) = true
    · rw [if_pos hc]; simp [hc]
    · rw [if_neg hc]; simp [hc]
theorem txt_prefix (P : Nat → Int) (i : Nat) : ∀ n, i ≤ n → (txt P n).take (bo P i) = txt P i
  | 0, h => by rw [show i = 0 by omega]; simp [txt]
  | n + 1, h => by
    by_cases e : i = n + 1
    · rw [e]; exact List.take_of_length_le (Nat.le_refl _)
    · have hm := bo_mono P i n (by omega)
      rw [txt, List.take_append_of_le_length hm]
      exact txt_prefix P i n (by omega)
/-- THE PLAIN LAW: ahead of where piece i begins lie i characters -/
theorem counts_law (P : Nat → Int) (i n : Nat) (h : i ≤ n) : cnt ⟨(txt P n).toArray⟩ (bo P i) = i := by
  rw [cnt_cntL _ _ (bo_mono P i n h), txt_prefix P i n h, cntL_txt]
end Go.Proofs.Ybulkbble
