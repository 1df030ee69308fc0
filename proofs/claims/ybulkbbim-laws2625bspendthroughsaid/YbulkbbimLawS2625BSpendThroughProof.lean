/-
  The law LawS2625BSpendThrough: four walks, by what the share and its parent hold, and the row.
-/
import Derived.Test.YbulkbbimSpend
import Derived.WalkKit
import Derived.ProofKit
import Derived.OpenShut
import Derived.ShutString
namespace Go.Proofs.Ybulkbbim.lawS2625BSpendThrough
open Go.ChangeShapes Go.WideShapes Go.ChangeAt Go.RowKit
open Go.ChangeMaps (open_string shut_string)
set_option linter.unusedVariables false      -- a walk need not use every 'w<i>' (that an integer argument fits its kind)

theorem own : ownKnob Yba.prog.godebug = none := by kernel_rfl

theorem spent_at (b : Nat) (x l r : Int) (w : World) (hc : w.cell? ⟨b, 0, none⟩ = some (.int .i64 x)) (hl : w.cell? ⟨b, 1, none⟩ = some (.int .i64 l)) (h1 : 0 ≤ x) (h2 : x ≤ 4294967295) (h3 : -36028797018963968 ≤ l) (h4 : l ≤ 36028797018963968) (hr : 2 * x - l = r) :
    Calls Yba.prog 14 #[.pointer (some ⟨b, 0, none⟩)] w fun e w' => e = .returned (.int .i64 r) ∧ ∃ n, w' = w.drewN n := by
  rw [← hr]; exact spent_any b x l w hc hl h1 h2 h3 h4
theorem grown_drewN {W w' : World} (h : Grown W w') (n : Nat) : Grown W (w'.drewN n) := by
  induction n generalizing w' with
  | zero => exact h
  | succ n ih => exact ih h.drew
set_option maxHeartbeats 1000000 in
theorem spend_in_yes (p s h : Int) (w : World) (p1 : 0 ≤ p) (p2 : p ≤ 4294967295) (s1 : 0 ≤ s) (s2 : s ≤ 4294967295) (h1 : 0 ≤ h) (h2 : h ≤ 4294967295) (hy : h ≤ 2 * s) (hq : h ≤ 2 * p) :
    Calls Yba.prog 6 #[.int .u32 p, .int .u32 s, .int .u32 h] w fun e w' => e = .returned (.bool true) ∧ Grown w w' := by
  go_enter Yba.func6, Yba.ntmps6
  go_wp2_with (first | (go_at_call 10; refine (new_small _ _ p1 p2).mono ?_; rintro e w' ⟨rfl, rfl⟩) | (go_at_call 11; refine (share_small _ _ _ s1 s2).mono ?_; rintro e w' ⟨rfl, rfl⟩))
  refine (part_in_yes (w.heap.size + 1) w.heap.size (2 * s) h (2 * p) _ ?_ ?_ ?_ ?_ ?_ ?_ ?_ ?_ (by omega) h1 h2 (by omega) (by omega) (by omega) (by omega) hy hq).mono ?_
  · go_simp
  · go_simp
  · go_simp
  · go_simp
  · go_simp
  · go_simp
  · go_simp
  · go_simp
  rintro e w' ⟨rfl, rfl⟩
  go_wp2_with fail
  refine (spent_at _ s (2 * s + -h) h _ ?_ ?_ s1 s2 (by omega) (by omega) (by omega)).mono ?_
  · go_simp
  · go_simp
  rintro e w' ⟨rfl, n1, rfl⟩
  go_wp2_with fail
  refine (spent_at _ p (2 * p + -(h)) (h) _ ?_ ?_ p1 p2 (by omega) (by omega) (by omega)).mono ?_
  · go_simp
  · go_simp
  rintro e w' ⟨rfl, n2, rfl⟩
  go_wp2
  go_ret
  exact ⟨rfl, by repeat (first | exact Grown.refl _ | apply grown_drewN | apply Grown.drew | apply Grown.alloc)⟩
set_option maxHeartbeats 1000000 in
theorem spend_in_no (p s h : Int) (w : World) (p1 : 0 ≤ p) (p2 : p ≤ 4294967295) (s1 : 0 ≤ s) (s2 : s ≤ 4294967295) (h1 : 0 ≤ h) (h2 : h ≤ 4294967295) (hy : h ≤ 2 * s) (hq : 2 * p < h) :
    Calls Yba.prog 6 #[.int .u32 p, .int .u32 s, .int .u32 h] w fun e w' => e = .returned (.bool true) ∧ Grown w w' := by
  have hd : decide (h ≤ 2 * p) = false := decide_eq_false (by omega)
  go_enter Yba.func6, Yba.ntmps6
  go_wp2_with (first | (go_at_call 10; refine (new_small _ _ p1 p2).mono ?_; rintro e w' ⟨rfl, rfl⟩) | (go_at_call 11; refine (share_small _ _ _ s1 s2).mono ?_; rintro e w' ⟨rfl, rfl⟩))
  refine (part_in_no (w.heap.size + 1) w.heap.size (2 * s) h (2 * p) _ ?_ ?_ ?_ ?_ ?_ ?_ ?_ (by omega) h1 h2 (by omega) (by omega) (by omega) (by omega) hy hq).mono ?_
  · go_simp
  · go_simp
  · go_simp
  · go_simp
  · go_simp
  · go_simp
  · go_simp
  rintro e w' ⟨rfl, rfl⟩
  go_wp2_with fail
  refine (spent_at _ s (2 * s + -h) h _ ?_ ?_ s1 s2 (by omega) (by omega) (by omega)).mono ?_
  · go_simp
  · go_simp
  rintro e w' ⟨rfl, n1, rfl⟩
  go_wp2_with fail
  refine (spent_at _ p (2 * p + -(h)) (h) _ ?_ ?_ p1 p2 (by omega) (by omega) (by omega)).mono ?_
  · go_simp
  · go_simp
  rintro e w' ⟨rfl, n2, rfl⟩
  go_wp2
  go_ret
  exact ⟨rfl, by repeat (first | exact Grown.refl _ | apply grown_drewN | apply Grown.drew | apply Grown.alloc)⟩
set_option maxHeartbeats 1000000 in
theorem spend_out_yes (p s h : Int) (w : World) (p1 : 0 ≤ p) (p2 : p ≤ 4294967295) (s1 : 0 ≤ s) (s2 : s ≤ 4294967295) (h1 : 0 ≤ h) (h2 : h ≤ 4294967295) (hy : 2 * s < h) (hq : 2 * s ≤ 2 * p) :
    Calls Yba.prog 6 #[.int .u32 p, .int .u32 s, .int .u32 h] w fun e w' => e = .returned (.bool true) ∧ Grown w w' := by
  go_enter Yba.func6, Yba.ntmps6
  go_wp2_with (first | (go_at_call 10; refine (new_small _ _ p1 p2).mono ?_; rintro e w' ⟨rfl, rfl⟩) | (go_at_call 11; refine (share_small _ _ _ s1 s2).mono ?_; rintro e w' ⟨rfl, rfl⟩))
  refine (part_out_yes (w.heap.size + 1) w.heap.size (2 * s) h (2 * p) _ ?_ ?_ ?_ ?_ ?_ ?_ ?_ (by omega) h1 h2 (by omega) (by omega) (by omega) (by omega) hy hq).mono ?_
  · go_simp
  · go_simp
  · go_simp
  · go_simp
  · go_simp
  · go_simp
  · go_simp
  rintro e w' ⟨rfl, rfl⟩
  go_wp2_with fail
  refine (spent_at _ s (2 * s + -h) h _ ?_ ?_ s1 s2 (by omega) (by omega) (by omega)).mono ?_
  · go_simp
  · go_simp
  rintro e w' ⟨rfl, n1, rfl⟩
  go_wp2_with fail
  refine (spent_at _ p (2 * p + -(2 * s)) (2 * s) _ ?_ ?_ p1 p2 (by omega) (by omega) (by omega)).mono ?_
  · go_simp
  · go_simp
  rintro e w' ⟨rfl, n2, rfl⟩
  go_wp2
  go_ret
  exact ⟨rfl, by repeat (first | exact Grown.refl _ | apply grown_drewN | apply Grown.drew | apply Grown.alloc)⟩
set_option maxHeartbeats 1000000 in
theorem spend_out_no (p s h : Int) (w : World) (p1 : 0 ≤ p) (p2 : p ≤ 4294967295) (s1 : 0 ≤ s) (s2 : s ≤ 4294967295) (h1 : 0 ≤ h) (h2 : h ≤ 4294967295) (hy : 2 * s < h) (hq : 2 * p < 2 * s) :
    Calls Yba.prog 6 #[.int .u32 p, .int .u32 s, .int .u32 h] w fun e w' => e = .returned (.bool true) ∧ Grown w w' := by
  go_enter Yba.func6, Yba.ntmps6
  go_wp2_with (first | (go_at_call 10; refine (new_small _ _ p1 p2).mono ?_; rintro e w' ⟨rfl, rfl⟩) | (go_at_call 11; refine (share_small _ _ _ s1 s2).mono ?_; rintro e w' ⟨rfl, rfl⟩))
  refine (part_out_no (w.heap.size + 1) w.heap.size (2 * s) h (2 * p) _ ?_ ?_ ?_ ?_ ?_ ?_ (by omega) h1 h2 (by omega) (by omega) (by omega) (by omega) hy hq).mono ?_
  · go_simp
  · go_simp
  · go_simp
  · go_simp
  · go_simp
  · go_simp
  rintro e w' ⟨rfl, rfl⟩
  go_wp2_with fail
  refine (spent_at _ s (2 * s + -h) h _ ?_ ?_ s1 s2 (by omega) (by omega) (by omega)).mono ?_
  · go_simp
  · go_simp
  rintro e w' ⟨rfl, n1, rfl⟩
  go_wp2_with fail
  refine (spent_at _ p (2 * p + -(2 * s)) (2 * s) _ ?_ ?_ p1 p2 (by omega) (by omega) (by omega)).mono ?_
  · go_simp
  · go_simp
  rintro e w' ⟨rfl, n2, rfl⟩
  go_wp2
  go_ret
  exact ⟨rfl, by repeat (first | exact Grown.refl _ | apply grown_drewN | apply Grown.drew | apply Grown.alloc)⟩
theorem walk (a0 : Int) (a1 : Int) (a2 : Int) (w0 : (Lit.int .u32 a0).wf = true) (w1 : (Lit.int .u32 a1).wf = true) (w2 : (Lit.int .u32 a2).wf = true) (w : World) :
    Calls Yba.prog 6 #[.int .u32 a0, .int .u32 a1, .int .u32 a2] w fun e w' => e = .returned (.bool true) ∧ Grown w w' := by
  have b0 := bounds_u32 w0
  have b1 := bounds_u32 w1
  have b2 := bounds_u32 w2
  by_cases hy : a2 ≤ 2 * a1
  · by_cases hq : a2 ≤ 2 * a0
    · exact spend_in_yes a0 a1 a2 w (by omega) (by omega) (by omega) (by omega) (by omega) (by omega) hy hq
    · exact spend_in_no a0 a1 a2 w (by omega) (by omega) (by omega) (by omega) (by omega) (by omega) hy (by omega)
  · by_cases hq : 2 * a1 ≤ 2 * a0
    · exact spend_out_yes a0 a1 a2 w (by omega) (by omega) (by omega) (by omega) (by omega) (by omega) (by omega) hq
    · exact spend_out_no a0 a1 a2 w (by omega) (by omega) (by omega) (by omega) (by omega) (by omega) (by omega) (by omega)

/-! ### THE ROW's STEP: WRITTEN OUT: LEAVE IT -/
set_option maxRecDepth 100000 in
theorem lifted (os : Os) (started : os.Started) (H : Type) (enc : TypeId × Value → H) :
    ReturnsInHanded {} Yba.checked os 6 .any (Rows.lawS2625BSpendThroughSpec.pre6 enc Yba.prog Yba.f6 Rows.lawS2625BSpendThroughRow.domain false) (Rows.lawS2625BSpendThroughSpec.post enc Yba.prog Yba.f6 false true false false) := by
  refine returnsInHanded_of_change (C := Yba.checked) own started (by kernel_rfl) Yba.func6
    (ChangeSpec.witness6 (enc := enc) (C := Yba.checked) false ⟨#[], #[.int .u32 0, .int .u32 0, .int .u32 0], []⟩ 8 (by kernel_rfl) (by kernel_rfl) (by kernel_rfl) (by kernel_rfl)) ?_
  intro W base args ds gs before hval0 hW hcnd _
  have hval : ∀ (j : Nat) t v, Yba.f6.params[j]? = some t → args[j]? = some v → Value.okWide Yba.prog W .any base t v := hval0
  have hW' := hW
  obtain ⟨p, q, hA0, hV, rfl, hfz, hnd⟩ := hW
  have hA : DataW.TrodAll enc Yba.prog W 0 (fun _ => true) true Yba.f6.params.toList args.toList ds p := hA0
  rw [Yba.params6] at hA hval
  obtain ⟨v0, vs0, d0, ds0, p0, q0, hargs, rfl, rfl, h0, r0⟩ := trodAll_cons hA
  obtain ⟨v1, vs1, d1, ds1, p1, q1, rfl, rfl, rfl, h1, r1⟩ := trodAll_cons r0
  obtain ⟨v2, vs2, d2, ds2, p2, q2, rfl, rfl, rfl, h2, r2⟩ := trodAll_cons r1
  obtain ⟨rfl, rfl, rfl⟩ := trodAll_nil r2
  obtain rfl : args = #[v0, v1, v2] := by cases args; simp_all
  obtain ⟨rfl, rfl⟩ := trodVars_none hV
  obtain ⟨a0, rfl, rfl, rfl, w0⟩ := open_int Yba.underlying41 (hval 0 41 v0 rfl rfl) h0
  obtain ⟨a1, rfl, rfl, rfl, w1⟩ := open_int Yba.underlying41 (hval 1 41 v1 rfl rfl) h1
  obtain ⟨a2, rfl, rfl, rfl, w2⟩ := open_int Yba.underlying41 (hval 2 41 v2 rfl rfl) h2
  clear hA0 hval0
  simp only [List.append_nil] at hW'
  refine (walk a0 a1 a2 w0 w1 w2 W).mono fun e W' ⟨he, hg⟩ => ?_
  subst he
  exact ⟨_, rfl, post_of_same (pa := []) (pv := []) hW' (fun _ _ _ => (trodAll_cons_mk (shut_bool Yba.underlying4 _) trodAll_mk0)) (fun sp _ => (trodAll_cons_mk (shut_int Yba.underlying41 w0) (trodAll_cons_mk (shut_int Yba.underlying41 w1) (trodAll_cons_mk (shut_int Yba.underlying41 w2) trodAll_mk0)))) (fun _ _ => rfl) rfl
    (hg.frame _) hg.2.1 (ok_one (by kernel_rfl) rfl (okWide_bool_mk Yba.underlying4 _))⟩

theorem over : Rows.lawS2625BSpendThroughRow.holds Yba.pinned (OpenSpec.ofChange Rows.lawS2625BSpendThroughSpec) :=
  OpenClaim.holds_of_wide 6 Yba.f6 rfl rfl rfl rfl rfl rfl rfl ⟨rfl, rfl, rfl, rfl, rfl⟩ rfl rfl rfl rfl rfl (by kernel_rfl) Yba.func6 (by kernel_rfl)
    (of_decide_eq_true (by kernel_rfl)) (by unfold Func.isWrapper; first | (rw [if_pos (by decide +kernel)]; kernel_rfl) | (rw [if_neg (by decide +kernel)]; exact ⟨rfl, rfl⟩))
    (fun os started H enc _ => lifted os started H enc)

/-- ████ THE STATEMENT ████ -/
theorem proved : Rows.LawS2625BSpendThroughSaid :=
  over
end Go.Proofs.Ybulkbbim.lawS2625BSpendThrough
namespace Go.Proofs.Ybulkbbim
theorem spendThroughProved : Rows.LawS2625BSpendThroughSaid := lawS2625BSpendThrough.proved
end Go.Proofs.Ybulkbbim
