/-
  Contracts of (*budget).stopped, spendHalves and spentHalves, where no context is held.
-/
import Derived.Test.YbulkbbimBudget
import Derived.Conc.LoneSelect
import Derived.Deep.QuietTactic
import Derived.BigQuiet
namespace Go.Proofs.Ybulkbbim
open Go.RowKit Go.Conc
set_option maxRecDepth 100000 in
theorem stopped_any (b : Nat) (w : World) (hc : w.cell? ⟨b, 4, none⟩ = some (.chan none)) :
    Calls Yba.prog 21 #[.pointer (some ⟨b, 0, none⟩)] w fun e w' => e = .returned (.bool false) ∧ w' = w := by
  refine calls_of_loneTo fun cs => ?_
  have e : Frame.enter Yba.prog 21 #[.pointer (some ⟨b, 0, none⟩)] .normal = (base 21).at ⟨#[.pointer (some ⟨b, 0, none⟩), undef, undef, undef, undef, undef, undef, undef, undef, undef], []⟩ [.code (Yba.f21.body.getD .skip)] := by
    simp [Frame.enter, Frame.at, Yba.func21, base, Yba.f21]
  rw [e]
  refine LoneTo.goes (n := 13) ?_
  simp only [Yba.f21, Option.getD_some]
  s_c stepG_seq
  s_reg
  s_op
  s_c stepG_region_end
  s_c stepG_seq
  s_reg
  s_op
  s_op
  s_op
  s_op
  s_c stepG_region_end
  s_c stepG_seq
  s_reg
  s_stop
  refine LoneTo.step (step_lone_select_recv_nil (z := .agg #[]) (stepG_comm (cases := #[rcaseNil (.agg #[])]) (blocking := false) (shape := .select) (w' := w) rfl rfl (by decide) (by simp [go_sem, execOp, rcaseNil, Act.eval]))) ?_
  rw [Frame.finish_at]
  walk_nrm
  refine LoneTo.goes (n := 10) ?_
  s_op
  s_op
  s_c stepG_region_end
  s_c stepG_block
  s_cond false
  s_c stepG_seq
  s_reg
  s_op
  s_c stepG_region_end
  s_c stepG_ret'
  s_stop
  refine LoneTo.done ⟨.returned (.bool false), _, rfl, ⟨rfl, rfl⟩, rfl, rfl, rfl, rfl, _, Yba.func21, by simp [results, Yba.f21, Frame.at]⟩

theorem wrap_small (x : Int) (h1 : -36028797018963968 ≤ x) (h2 : x ≤ 36028797018963968) : wrap64 x = x := by unfold wrap64; omega

theorem add64 {a : Addr} {x y : Int} {w : World} (hc : w.cell? a = some (.int .i64 x)) (hz : w.frozen? a = false) (h1 : -36028797018963968 ≤ x + y) (h2 : x + y ≤ 36028797018963968) :
    (callFunc 25 #[.pointer (some a), .int .i64 y]).run Yba.prog w = .ok (.value (.int .i64 (x + y))) (w.setCell a (.int .i64 (x + y))) := by
  refine run_call_add (P := Yba.prog) Yba.func25 (by kernel_rfl) (by kernel_rfl) (by kernel_rfl) .i64 (by kernel_rfl) hc hz ?_
  have e := wrap_small (x + y) h1 h2
  unfold wrap64 at e
  simp [go_sem, IntKind.wrap_i64]
  exact e

theorem add_any (b o : Nat) (x y : Int) (w : World) (hc : w.cell? ⟨b, o, none⟩ = some (.int .i64 x)) (hz : w.frozen? ⟨b, o, none⟩ = false) (h1 : -36028797018963968 ≤ x + y) (h2 : x + y ≤ 36028797018963968) :
    Calls Yba.prog 20 #[.pointer (some ⟨b, o, none⟩), .int .i64 y] w fun e w' => e = .returned (.int .i64 (x + y)) ∧ w' = w.setCell ⟨b, o, none⟩ (.int .i64 (x + y)) := by
  have hs := add64 hc hz h1 h2
  go_enter Yba.func20, Yba.ntmps20
  go_wp2
  go_ret
  exact ⟨rfl, rfl⟩

set_option maxHeartbeats 400000 in
theorem spent_any (b : Nat) (x l : Int) (w : World) (hc : w.cell? ⟨b, 0, none⟩ = some (.int .i64 x)) (hl : w.cell? ⟨b, 1, none⟩ = some (.int .i64 l)) (h1 : 0 ≤ x) (h2 : x ≤ 4294967295) (h3 : -36028797018963968 ≤ l) (h4 : l ≤ 36028797018963968) :
    Calls Yba.prog 14 #[.pointer (some ⟨b, 0, none⟩)] w fun e w' => e = .returned (.int .i64 (2 * x - l)) ∧ ∃ n, w' = w.drewN n := by
  go_enter Yba.func14, Yba.ntmps14
  go_wp2
  go_quiet ((go_at_call 12; exact Calls.quiet_of_same (load_any _ _ _ _ (by assumption))))
  go_wp2
  go_ret
  exact ⟨rfl, _, rfl⟩

set_option maxHeartbeats 400000 in
theorem leaf_yes (b : Nat) (l h : Int) (w : World) (hl : w.cell? ⟨b, 1, none⟩ = some (.int .i64 l)) (hof : w.cell? ⟨b, 2, none⟩ = some (.pointer none)) (hch : w.cell? ⟨b, 4, none⟩ = some (.chan none)) (hz : w.frozen? ⟨b, 1, none⟩ = false)
    (h1 : 0 ≤ h) (h2 : h ≤ 4294967295) (h3 : 0 ≤ l) (h4 : l ≤ 8589934590) (hy : h ≤ l) :
    Calls Yba.prog 13 #[.pointer (some ⟨b, 0, none⟩), .int .i64 h] w fun e w' => e = .returned (.bool true) ∧ w' = w.setCell ⟨b, 1, none⟩ (.int .i64 (l + -h)) := by
  go_enter Yba.func13, Yba.ntmps13
  go_wp2_with fail
  refine (add_any _ _ l _ _ hl hz (by omega) (by omega)).mono ?_
  rintro e w' ⟨rfl, rfl⟩
  go_wp2_with fail
  refine (stopped_any _ _ ?_).mono ?_
  · go_simp
  rintro e w' ⟨rfl, rfl⟩
  go_wp2
  go_ret
  exact ⟨rfl, rfl⟩
set_option maxHeartbeats 400000 in
theorem leaf_no (b : Nat) (l h : Int) (w : World) (hl : w.cell? ⟨b, 1, none⟩ = some (.int .i64 l)) (hof : w.cell? ⟨b, 2, none⟩ = some (.pointer none)) (hz : w.frozen? ⟨b, 1, none⟩ = false)
    (h1 : 0 ≤ h) (h2 : h ≤ 4294967295) (h3 : 0 ≤ l) (h4 : l ≤ 8589934590) (hy : l < h) :
    Calls Yba.prog 13 #[.pointer (some ⟨b, 0, none⟩), .int .i64 h] w fun e w' => e = .returned (.bool false) ∧ w' = w.setCell ⟨b, 1, none⟩ (.int .i64 (l + -h)) := by
  go_enter Yba.func13, Yba.ntmps13
  go_wp2_with fail
  refine (add_any _ _ l _ _ hl hz (by omega) (by omega)).mono ?_
  rintro e w' ⟨rfl, rfl⟩
  go_wp2
  go_ret
  exact ⟨rfl, rfl⟩
set_option maxHeartbeats 400000 in
theorem part_in_yes (b p : Nat) (l h lp : Int) (w : World) (hl : w.cell? ⟨b, 1, none⟩ = some (.int .i64 l)) (hof : w.cell? ⟨b, 2, none⟩ = some (.pointer (some ⟨p, 0, none⟩))) (hch : w.cell? ⟨b, 4, none⟩ = some (.chan none)) (hz : w.frozen? ⟨b, 1, none⟩ = false)
    (pl : w.cell? ⟨p, 1, none⟩ = some (.int .i64 lp)) (pof : w.cell? ⟨p, 2, none⟩ = some (.pointer none)) (pch : w.cell? ⟨p, 4, none⟩ = some (.chan none)) (pz : w.frozen? ⟨p, 1, none⟩ = false)
   (hpb : ¬ p = b)
    (h1 : 0 ≤ h) (h2 : h ≤ 4294967295) (h3 : 0 ≤ l) (h4 : l ≤ 8589934590) (h5 : 0 ≤ lp) (h6 : lp ≤ 8589934590) (hy : h ≤ l) (hq : h ≤ lp) :
    Calls Yba.prog 13 #[.pointer (some ⟨b, 0, none⟩), .int .i64 h] w fun e w' => e = .returned (.bool true) ∧ w' = (w.setCell ⟨b, 1, none⟩ (.int .i64 (l + -h))).setCell ⟨p, 1, none⟩ (.int .i64 (lp + -h)) := by
  go_enter Yba.func13, Yba.ntmps13
  go_wp2_with fail
  refine (add_any _ _ l _ _ hl hz (by omega) (by omega)).mono ?_
  rintro e w' ⟨rfl, rfl⟩
  go_wp2_with fail
  refine (stopped_any _ _ ?_).mono ?_
  · go_simp
  rintro e w' ⟨rfl, rfl⟩
  go_wp2_with fail
  refine (leaf_yes _ lp _ _ ?_ ?_ ?_ ?_ (by omega) (by omega) h5 h6 hq).mono ?_
  · go_simp
  · go_simp
  · go_simp
  · go_simp
  rintro e w' ⟨rfl, rfl⟩
  go_wp2
  go_ret
  exact ⟨rfl, rfl⟩
set_option maxHeartbeats 400000 in
theorem part_in_no (b p : Nat) (l h lp : Int) (w : World) (hl : w.cell? ⟨b, 1, none⟩ = some (.int .i64 l)) (hof : w.cell? ⟨b, 2, none⟩ = some (.pointer (some ⟨p, 0, none⟩))) (hch : w.cell? ⟨b, 4, none⟩ = some (.chan none)) (hz : w.frozen? ⟨b, 1, none⟩ = false)
    (pl : w.cell? ⟨p, 1, none⟩ = some (.int .i64 lp)) (pof : w.cell? ⟨p, 2, none⟩ = some (.pointer none)) (pz : w.frozen? ⟨p, 1, none⟩ = false)
   (hpb : ¬ p = b)
    (h1 : 0 ≤ h) (h2 : h ≤ 4294967295) (h3 : 0 ≤ l) (h4 : l ≤ 8589934590) (h5 : 0 ≤ lp) (h6 : lp ≤ 8589934590) (hy : h ≤ l) (hq : lp < h) :
    Calls Yba.prog 13 #[.pointer (some ⟨b, 0, none⟩), .int .i64 h] w fun e w' => e = .returned (.bool false) ∧ w' = (w.setCell ⟨b, 1, none⟩ (.int .i64 (l + -h))).setCell ⟨p, 1, none⟩ (.int .i64 (lp + -h)) := by
  go_enter Yba.func13, Yba.ntmps13
  go_wp2_with fail
  refine (add_any _ _ l _ _ hl hz (by omega) (by omega)).mono ?_
  rintro e w' ⟨rfl, rfl⟩
  go_wp2_with fail
  refine (stopped_any _ _ ?_).mono ?_
  · go_simp
  rintro e w' ⟨rfl, rfl⟩
  go_wp2_with fail
  refine (leaf_no _ lp _ _ ?_ ?_ ?_ (by omega) (by omega) h5 h6 hq).mono ?_
  · go_simp
  · go_simp
  · go_simp
  rintro e w' ⟨rfl, rfl⟩
  go_wp2
  go_ret
  exact ⟨rfl, rfl⟩
set_option maxHeartbeats 400000 in
theorem part_out_yes (b p : Nat) (l h lp : Int) (w : World) (hl : w.cell? ⟨b, 1, none⟩ = some (.int .i64 l)) (hof : w.cell? ⟨b, 2, none⟩ = some (.pointer (some ⟨p, 0, none⟩))) (hz : w.frozen? ⟨b, 1, none⟩ = false)
    (pl : w.cell? ⟨p, 1, none⟩ = some (.int .i64 lp)) (pof : w.cell? ⟨p, 2, none⟩ = some (.pointer none)) (pch : w.cell? ⟨p, 4, none⟩ = some (.chan none)) (pz : w.frozen? ⟨p, 1, none⟩ = false)
   (hpb : ¬ p = b)
    (h1 : 0 ≤ h) (h2 : h ≤ 4294967295) (h3 : 0 ≤ l) (h4 : l ≤ 8589934590) (h5 : 0 ≤ lp) (h6 : lp ≤ 8589934590) (hy : l < h) (hq : l ≤ lp) :
    Calls Yba.prog 13 #[.pointer (some ⟨b, 0, none⟩), .int .i64 h] w fun e w' => e = .returned (.bool false) ∧ w' = (w.setCell ⟨b, 1, none⟩ (.int .i64 (l + -h))).setCell ⟨p, 1, none⟩ (.int .i64 (lp + -l)) := by
  go_enter Yba.func13, Yba.ntmps13
  go_wp2_with fail
  refine (add_any _ _ l _ _ hl hz (by omega) (by omega)).mono ?_
  rintro e w' ⟨rfl, rfl⟩
  go_wp2_with fail
  rw [show l + -h + h = l from by omega]
  refine (leaf_yes _ lp _ _ ?_ ?_ ?_ ?_ (by omega) (by omega) h5 h6 hq).mono ?_
  · go_simp
  · go_simp
  · go_simp
  · go_simp
  rintro e w' ⟨rfl, rfl⟩
  go_wp2
  go_ret
  exact ⟨rfl, rfl⟩
set_option maxHeartbeats 400000 in
theorem part_out_no (b p : Nat) (l h lp : Int) (w : World) (hl : w.cell? ⟨b, 1, none⟩ = some (.int .i64 l)) (hof : w.cell? ⟨b, 2, none⟩ = some (.pointer (some ⟨p, 0, none⟩))) (hz : w.frozen? ⟨b, 1, none⟩ = false)
    (pl : w.cell? ⟨p, 1, none⟩ = some (.int .i64 lp)) (pof : w.cell? ⟨p, 2, none⟩ = some (.pointer none)) (pz : w.frozen? ⟨p, 1, none⟩ = false)
   (hpb : ¬ p = b)
    (h1 : 0 ≤ h) (h2 : h ≤ 4294967295) (h3 : 0 ≤ l) (h4 : l ≤ 8589934590) (h5 : 0 ≤ lp) (h6 : lp ≤ 8589934590) (hy : l < h) (hq : lp < l) :
    Calls Yba.prog 13 #[.pointer (some ⟨b, 0, none⟩), .int .i64 h] w fun e w' => e = .returned (.bool false) ∧ w' = (w.setCell ⟨b, 1, none⟩ (.int .i64 (l + -h))).setCell ⟨p, 1, none⟩ (.int .i64 (lp + -l)) := by
  go_enter Yba.func13, Yba.ntmps13
  go_wp2_with fail
  refine (add_any _ _ l _ _ hl hz (by omega) (by omega)).mono ?_
  rintro e w' ⟨rfl, rfl⟩
  go_wp2_with fail
  rw [show l + -h + h = l from by omega]
  refine (leaf_no _ lp _ _ ?_ ?_ ?_ (by omega) (by omega) h5 h6 hq).mono ?_
  · go_simp
  · go_simp
  · go_simp
  rintro e w' ⟨rfl, rfl⟩
  go_wp2
  go_ret
  exact ⟨rfl, rfl⟩
theorem new_small (x : Int) (w : World) (h1 : 0 ≤ x) (h2 : x ≤ 4294967295) : Calls Yba.prog 10 #[.int .i64 x] w fun e w' => e = .returned (.pointer (some ⟨w.heap.size, 0, none⟩)) ∧ w' = w.alloc (bud x (2 * x) none) := by
  have := new_any x w
  rwa [wrap_small (2 * x) (by omega) (by omega)] at this
theorem share_small (b : Addr) (x : Int) (w : World) (h1 : 0 ≤ x) (h2 : x ≤ 4294967295) : Calls Yba.prog 11 #[.pointer (some b), .int .i64 x] w fun e w' => e = .returned (.pointer (some ⟨w.heap.size, 0, none⟩)) ∧ w' = w.alloc (bud x (2 * x) (some b)) := by
  have := share_any b x w
  rwa [wrap_small (2 * x) (by omega) (by omega)] at this
end Go.Proofs.Ybulkbbim
