/-
  slices.Backward over a slice of peers: the closure by its contract.
-/
import Derived.Test.YbulkbbkqIdent
import Derived.RangeFuncNested
import Derived.RangeFuncBound
import Derived.RangeFuncCalls
import Derived.RangeFuncLeaves
import Derived.Shelf.Abstract
import Derived.Shelf.RegionOpen
import Derived.OwnWalkIn
import Derived.TacticsInMore
import Derived.LoopNIn
import Derived.LoopIn
import Derived.Stop.BytesEq
namespace Go.Proofs.Ybulkbbkq
open Go.RowKit Go.Shelf
attribute [local go_sem] Oper.semAt_some

theorem wpListIn_load_mid {F : Fence} {n : Nat} {P : Program} {ops : Array Oper} {rest : List Oper} {op : Oper} {a : Act} {w : World} {Q : Exit → Act → World → Prop} (hgd : op.guard = none) (ty : TypeId) (x : Operand) (ho : op.op = .load ty x)
    (b o : Nat) (hx : a.eval x = .pointer (some ⟨b, o, none⟩)) (cs : List Value) (d : TypeDesc) (hc : w.rangeAt b o cs)
    (hu : P.underlying ty = some d) (hd : d.isRow = true) (hi : (P.info? ty).map (·.size) = some cs.length)
    (h : wpListIn F n P ops Q rest (a.put op.dst (.agg cs.toArray)) w) : wpListIn F n P ops Q (op :: rest) a w := by
  refine wpListIn_plain hgd fun K hK => ?_
  unfold Oper.wpIn
  refine ⟨?_, ?_⟩
  · simp [Oper.about, ho]
  · rw [Oper.semAt_plain F _ _ (by rw [ho]; intro c hc'; cases hc')]
    unfold execOp
    simp only [ho, hx, Instr.loadAt, Instr.sureAddr, Sem.run_bind, Sem.run_pure, Result.andThen_ok, run_loadVar_mid w b o ty cs d hc hu hd hi]
    exact hK _ _ h

theorem wpListIn_store_mid {F : Fence} {n : Nat} {P : Program} {ops : Array Oper} {rest : List Oper} {op : Oper} {a : Act} {w : World} {Q : Exit → Act → World → Prop} (hgd : op.guard = none) (ty : TypeId) (x y : Operand) (ho : op.op = .store ty x y)
    (b o : Nat) (cells : Array Value) (hx : a.eval x = .pointer (some ⟨b, o, none⟩)) (hy : a.eval y = .agg cells)
    (ht : w.there b o cells.size) (hi : (P.info? ty).map (·.size) = some cells.size) (h1 : cells.all (·.oneCell') = true)
    (h : wpListIn F n P ops Q rest (a.put op.dst undef) (w.setCells b o cells.toList)) : wpListIn F n P ops Q (op :: rest) a w := by
  refine wpListIn_plain hgd fun K hK => ?_
  unfold Oper.wpIn
  refine ⟨?_, ?_⟩
  · simp [Oper.about, ho]
  · rw [Oper.semAt_plain F _ _ (by rw [ho]; intro c hc'; cases hc')]
    unfold execOp
    simp only [ho, hx, hy, Instr.storeAt, Instr.sureAddr, Sem.run_bind, Sem.run_pure, Result.andThen_ok, run_storeVar_mid w b o ty cells ht hi h1]
    exact hK _ _ h

/-- the cells of a time -/
def tmc (a : Int) : List Value := [.int .u64 (a % 1000000000), .int .i64 (a / 1000000000), .pointer none]
/-- the cells of a peer: its identity's first byte, its time -/
def pcs (p : UInt8 × Int) : List Value := idc (p.1.toNat : Int) ++ tmc p.2
theorem pcs_length (p : UInt8 × Int) : (pcs p).length = 67 := by simp [pcs, tmc, idc]
theorem pcs_size (p : UInt8 × Int) : (pcs p).toArray.size = 67 := by simp [pcs, tmc, idc]
theorem pcs_one (p : UInt8 × Int) : ∀ v ∈ pcs p, v.oneCell' = true := by
  intro v hv
  rcases List.mem_append.1 hv with h | h
  · exact idc_one _ v h
  · simp [tmc] at h; rcases h with rfl | rfl | rfl <;> rfl
theorem info35 : (Yba.prog.info? 35).map (·.size) = some 67 := by kernel_rfl

def upto {α : Type} (f : Nat → α) (k : Nat) : List α := (List.range k).map f
theorem upto_succ {α : Type} (f : Nat → α) (k : Nat) : upto f (k + 1) = upto f k ++ [f k] := by simp [upto, List.range_succ]
theorem upto_length {α : Type} (f : Nat → α) (k : Nat) : (upto f k).length = k := by simp [upto]
/-- element j -/
def elt (xs : List (UInt8 × Int)) (j : Nat) : UInt8 × Int := xs.getD j (0, 0)
/-- what comes in round j: the index and the peer, the last first -/
def back (xs : List (UInt8 × Int)) (j : Nat) : Int × (UInt8 × Int) := ((xs.length : Int) - 1 - j, elt xs (xs.length - 1 - j))

set_option maxRecDepth 100000 in
set_option maxHeartbeats 2000000 in
theorem back1_in (F : Fence) (n : Nat) (h16 : F.fn 16) (hro : F.round = none) (hn : 1 ≤ n) (l Bs n₀ b off cap : Nat) (xs : List (UInt8 × Int)) (hlen : xs.length ≤ 4096) (hb : b < n₀) (J Jx : List (Int × (UInt8 × Int)) → World → Prop)
    (hY : ∀ pre x W, J pre W → pre.length < xs.length → YieldAt F (n - 1) Yba.prog l #[.int .i64 x.1, .agg (pcs x.2).toArray] W fun e W' =>
      (e = .returned (.bool true) ∧ J (pre ++ [x]) W' ∧ Below n₀ W W') ∨ (e = .returned (.bool false) ∧ Jx (pre ++ [x]) W'))
    (W : World) (hBs : W.cell? ⟨Bs, 0, none⟩ = some (.slice (some ⟨b, off, none⟩) xs.length cap)) (hBn : Bs < n₀) (hc : ∀ j, j < xs.length → W.rangeAt b (off + j * 67) (pcs (elt xs j))) (h0 : J [] W) :
    CallsIn F n Yba.prog 16 #[.func (.yield l) #[] #[], .pointer (some ⟨Bs, 0, none⟩)] W fun e W' => (∃ v, e = .returned v) ∧
      ((∃ ys, ys = upto (back xs) xs.length ∧ J ys W') ∨ (∃ pre, (∃ k, k ≤ xs.length ∧ pre = upto (back xs) k) ∧ Jx pre W')) := by
  refine callsIn_of_wp Yba.func16 rfl h16 ?_ hro
  simp only [Yba.ntmps16, List.size_toArray, List.length_cons, List.length_nil, Nat.reduceAdd, Nat.reduceSub, Array.replicate_succ, Array.replicate_zero, List.push_toArray, List.append_toArray, List.nil_append, List.cons_append]
  gi_wp2
  gi_loopw [3] (fun i wr => ∃ k : Nat, k ≤ xs.length ∧ i = .int .i64 ((xs.length : Int) - 1 - k) ∧ J (upto (back xs) k) wr ∧ Below n₀ W wr)
    (fun i _ => (intOf i + 1).toNat)
  case atStart => exact ⟨0, Nat.zero_le _, by simp, h0, Below.refl _ _⟩
  case round =>
    obtain ⟨k, hk, rfl, hJs, hnx⟩ := hrel
    by_cases hlt : k < xs.length
    · obtain ⟨fn, tmps, assign, body, hy, hR⟩ := hY _ (back xs k) wr hJs (by rw [upto_length]; exact hlt)
      dsimp only [back] at hy
      have hcs : wr.cell? ⟨Bs, 0, none⟩ = some (.slice (some ⟨b, off, none⟩) xs.length cap) := (hnx.cell (p := ⟨Bs, 0, none⟩) hBn).trans hBs
      have hrg : wr.rangeAt b (off + (xs.length - 1 - k) * 67) (pcs (elt xs (xs.length - 1 - k))) := fun j v hv => (hnx.cell (p := ⟨b, off + (xs.length - 1 - k) * 67 + j, none⟩) hb).trans (hc _ (by omega) j v hv)
      gi_wp2_with (refine wpListIn_load_mid rfl 35 (.tmp 15) rfl b (off + (xs.length - 1 - k) * 67) rfl (pcs (elt xs (xs.length - 1 - k))) _ hrg Yba.underlying35 rfl (by rw [info35, pcs_length]) ?_)
      refine hR.mono ?_
      rintro e W3 (⟨rfl, hJ3, hk3⟩ | ⟨rfl, hJx3⟩)
      · gi_wp2
        go_roundw
        case rel => exact ⟨k + 1, by omega, by go_num, by rw [upto_succ]; exact hJ3, hnx.trans hk3⟩
        case measure => simp [intOf]; omega
      · gi_wp2
        refine bodyPost_ret (results_none rfl _ _ _) rfl ?_
        exact ⟨⟨_, rfl⟩, .inr ⟨_, ⟨k + 1, by omega, (upto_succ _ _).symm⟩, hJx3⟩⟩
    · obtain rfl : k = xs.length := by omega
      gi_wp2
      go_end0
      exact ⟨⟨_, rfl⟩, .inl ⟨_, rfl, hJs⟩⟩
theorem idc_cells (k : UInt8) : idc (k.toNat : Int) = (k :: List.replicate 63 0).map Extern.Stop.cell := rfl
theorem size5 (w : World) : (sizeOf 5).run Yba.prog w = .ok 1 w := by kernel_rfl
theorem eq27 (k k' : UInt8) (w : World) : (binOp .eql 27 (.agg (idc (k.toNat : Int)).toArray) (.agg (idc (k'.toNat : Int)).toArray)).run Yba.prog w = .ok (.bool (k == k')) w := by
  rw [idc_cells, idc_cells, run_eql_bytes w 27 5 64 Yba.underlying27 Yba.underlying5 size5 _ _ (by simp) (by simp)]
  simp [List.cons_beq_cons]
theorem before_tmc (a b : Int) (w : World) :
    Calls Yba.prog 11 #[.agg (tmc a).toArray, .agg (tmc b).toArray] w fun e w' => e = .returned (.bool (decide (a < b))) ∧ Below w.heap.size w w' := before_any a b w
set_option maxHeartbeats 1000000 in
/-- slices.Backward(s): the slice value is boxed; the function value captures the box. -/
theorem back_in (F : Fence) (n : Nat) (h10 : F.fn 10) (hro : F.round = none) (a : Option Addr) (len cap : Nat) (w : World) :
    CallsIn F n Yba.prog 10 #[.slice a len cap] w fun e w' => e = .returned (.func (.func 16) #[] #[.pointer (some ⟨w.heap.size, 0, none⟩)]) ∧ w' = w.alloc (.cells #[.slice a len cap] 25) := by
  refine callsIn_of_wp Yba.func10 rfl h10 ?_ hro
  simp only [Yba.ntmps10, List.size_toArray, List.length_cons, List.length_nil, Nat.reduceAdd, Nat.reduceSub, Array.replicate_succ, Array.replicate_zero, List.push_toArray, List.append_toArray, List.nil_append, List.cons_append]
  gi_wp2
  go_ret
  exact ⟨rfl, rfl⟩
/-- the closure's contract: all peers, the last first, or the first k of them -/
theorem back_stops (F : Fence) (n : Nat) (h16 : F.fn 16) (hro : F.round = none) (hn : 1 ≤ n) (Bs n₀ b off cap : Nat) (xs : List (UInt8 × Int)) (hlen : xs.length ≤ 4096) (w : World) (hBn : Bs < n₀) (hb : b < n₀) (hn₀ : n₀ ≤ w.heap.size)
    (hc : w.cell? ⟨Bs, 0, none⟩ = some (.slice (some ⟨b, off, none⟩) xs.length cap)) (hI : ∀ j, j < xs.length → w.rangeAt b (off + j * 67) (pcs (elt xs j))) :
    SeqStopsK F n Yba.prog 16 #[.pointer (some ⟨Bs, 0, none⟩)] (fun x : Int × (UInt8 × Int) => #[Value.int .i64 x.1, Value.agg (pcs x.2).toArray]) (Below n₀) (fun ys => ys = upto (back xs) xs.length)
      (fun pre => ∃ k, k ≤ xs.length ∧ pre = upto (back xs) k) xs.length w := fun l J Jx W hW _ _ hY h0 =>
  back1_in F n h16 hro hn l Bs n₀ b off cap xs hlen hb J Jx hY W ((hW.cell (p := ⟨Bs, 0, none⟩) (by show Bs < _; omega)).trans hc) hBn
    (fun j hj i v hv => (hW.cell (p := ⟨b, off + j * 67 + i, none⟩) (by show b < _; omega)).trans (hI j hj i v hv)) h0
/-- does the list of what comes hold id k, ahead of a time before t? -/
def hasB (k : UInt8) (t : Int) : List (Int × (UInt8 × Int)) → Bool
  | [] => false
  | q :: qs => if q.2.2 < t then false else if q.2.1 == k then true else hasB k t qs
theorem hasB_pass (k : UInt8) (t : Int) : ∀ (ini rest : List (Int × (UInt8 × Int))), (∀ q ∈ ini, ¬ q.2.2 < t ∧ (q.2.1 == k) = false) → hasB k t (ini ++ rest) = hasB k t rest
  | [], _, _ => rfl
  | q :: qs, rest, h => by
    have h1 := h q (by simp)
    rw [List.cons_append, hasB, if_neg h1.1, h1.2]
    exact hasB_pass k t qs rest (fun q' hq => h q' (by simp [hq]))
theorem upto_prefix {α : Type} (f : Nat → α) (k m : Nat) : upto f (k + m) = upto f k ++ (List.range m).map (fun j => f (k + j)) := by
  simp [upto, List.range_add]
end Go.Proofs.Ybulkbbkq
