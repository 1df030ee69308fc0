/-
  The times of package warren laws: Time.Add on the zero time by a few seconds, and Before between two such times.
-/
import Derived.Test.YbulkbbkqRows
import Derived.WalkKit
import Derived.ProofKit
import Derived.WalkLawsBesides
import Derived.Laws.BitsAllLaws
namespace Go.Proofs.Ybulkbbkq
open Go.RowKit
theorem and_low (n : Int) (h0 : 0 ≤ n) (h1 : n ≤ 999999999) : bits .and .u64 n 1073741823 = n := by
  rw [u64_and n 1073741823 h0 (by omega) (by omega) (by omega)]
  have : n.toNat &&& (2 ^ 30 - 1) = n.toNat := by rw [Nat.and_two_pow_sub_one_eq_mod]; exact Nat.mod_eq_of_lt (by omega)
  have e : (1073741823 : Int).toNat = 2 ^ 30 - 1 := by decide
  rw [e, this]; omega
theorem and_top (n : Int) (h0 : 0 ≤ n) (h1 : n ≤ 999999999) : bits .and .u64 n 9223372036854775808 = 0 := by
  rw [u64_and n 9223372036854775808 h0 (by omega) (by omega) (by omega)]
  have e : (9223372036854775808 : Int).toNat = 2 ^ 63 := by decide
  rw [e]
  have : n.toNat &&& 2 ^ 63 = 0 := by
    apply Nat.eq_of_testBit_eq
    intro i
    rw [Nat.testBit_and, Nat.testBit_two_pow, Nat.zero_testBit]
    by_cases hi : 63 = i
    · subst hi
      have : n.toNat.testBit 63 = false := Nat.testBit_lt_two_pow (by omega)
      simp [this]
    · simp [hi]
  rw [this]; rfl
theorem or_zero' (n : Int) (h0 : 0 ≤ n) (h1 : n ≤ 999999999) : bits .or .u64 0 n = n := by
  rw [u64_or 0 n (by omega) (by omega) h0 (by omega)]
  simp; omega
theorem notmask : bits .andNot .u64 0 1073741823 = 0 := by decide +kernel
set_option maxHeartbeats 400000 in
theorem nsec_any (b : Nat) (n : Int) (w : World) (hc : w.cell? ⟨b, 0, none⟩ = some (.int .u64 n)) (h0 : 0 ≤ n) (h1 : n ≤ 999999999) :
    Calls Yba.prog 13 #[.pointer (some ⟨b, 0, none⟩)] w fun e w' => e = .returned (.int .i32 n) ∧ w' = w := by
  have e1 := and_low n h0 h1
  go_enter Yba.func13, Yba.ntmps13
  go_wp2
  go_ret
  exact ⟨rfl, rfl⟩
set_option maxHeartbeats 400000 in
theorem sec_any (b : Nat) (n s : Int) (w : World) (hc : w.cell? ⟨b, 0, none⟩ = some (.int .u64 n)) (hs : w.cell? ⟨b, 1, none⟩ = some (.int .i64 s)) (h0 : 0 ≤ n) (h1 : n ≤ 999999999) :
    Calls Yba.prog 17 #[.pointer (some ⟨b, 0, none⟩)] w fun e w' => e = .returned (.int .i64 s) ∧ w' = w := by
  have e1 := and_top n h0 h1
  go_enter Yba.func17, Yba.ntmps17
  go_wp2
  go_ret
  exact ⟨rfl, rfl⟩
set_option maxHeartbeats 400000 in
theorem addSec_any (b : Nat) (n d : Int) (w : World) (hc : w.cell? ⟨b, 0, none⟩ = some (.int .u64 n)) (hs : w.cell? ⟨b, 1, none⟩ = some (.int .i64 0)) (hf : w.frozen? ⟨b, 1, none⟩ = false) (h0 : 0 ≤ n) (h1 : n ≤ 999999999) (d0 : -10 ≤ d) (d1 : d ≤ 10) :
    Calls Yba.prog 14 #[.pointer (some ⟨b, 0, none⟩), .int .i64 d] w fun e w' => e = .returned (.tuple #[]) ∧ w' = w.setCell ⟨b, 1, none⟩ (.int .i64 d) := by
  have e1 := and_top n h0 h1
  by_cases hd : 0 < d
  · go_enter Yba.func14, Yba.ntmps14
    go_wp2
    go_end0
    exact ⟨rfl, rfl⟩
  · go_enter Yba.func14, Yba.ntmps14
    go_wp2
    go_end0
    exact ⟨rfl, rfl⟩
set_option maxHeartbeats 1000000 in
theorem add_pos (a : Int) (w : World) (h0 : 0 ≤ a) (h1 : a ≤ 2147483647) :
    Calls Yba.prog 9 #[.agg #[.int .u64 0, .int .i64 0, .pointer none], .int .i64 a] w fun e w' => e = .returned (.agg #[.int .u64 (a % 1000000000), .int .i64 (a / 1000000000), .pointer none]) ∧ Below w.heap.size w w' := by
  have e1 := and_top (a % 1000000000) (by omega) (by omega)
  have e2 := notmask
  have e3 := or_zero' (a % 1000000000) (by omega) (by omega)
  go_enter Yba.func9, Yba.ntmps9
  go_wp2_with fail
  refine (nsec_any _ 0 _ ?_ (by omega) (by omega)).mono ?_
  · go_simp
  rintro e w' ⟨rfl, rfl⟩
  go_wp2_with fail
  refine (addSec_any _ (a % 1000000000) (a / 1000000000) _ ?_ ?_ ?_ (by omega) (by omega) (by omega) (by omega)).mono ?_
  · go_simp
  · go_simp
  · go_simp
  rintro e w' ⟨rfl, rfl⟩
  go_wp2
  exact bodyPost_ret (v := .agg #[.int .u64 (a % 1000000000), .int .i64 (a / 1000000000), .pointer none]) (by simp [results, Yba.results9, go_sem]) rfl ⟨rfl, ((Below.refl _ _).alloc (Nat.le_refl _) _).alloc (by simp) _⟩
set_option maxHeartbeats 1000000 in
theorem add_neg (a q r : Int) (w : World) (_h0 : a < 0) (_h1 : -2147483648 ≤ a) (hq : a.tdiv 1000000000 = q) (hr : a.tmod 1000000000 = r) (q0 : -3 ≤ q) (q1 : q ≤ 0) (r0 : -999999999 ≤ r) (r1 : r < 0) :
    Calls Yba.prog 9 #[.agg #[.int .u64 0, .int .i64 0, .pointer none], .int .i64 a] w fun e w' => e = .returned (.agg #[.int .u64 (r + 1000000000), .int .i64 (q - 1), .pointer none]) ∧ Below w.heap.size w w' := by
  have e1 := and_top (r + 1000000000) (by omega) (by omega)
  have e2 := notmask
  have e3 := or_zero' (r + 1000000000) (by omega) (by omega)
  go_enter Yba.func9, Yba.ntmps9
  go_wp2_with fail
  refine (nsec_any _ 0 _ ?_ (by omega) (by omega)).mono ?_
  · go_simp
  rintro e w' ⟨rfl, rfl⟩
  go_wp2_with fail
  refine (addSec_any _ (r + 1000000000) (q - 1) _ ?_ ?_ ?_ (by omega) (by omega) (by omega) (by omega)).mono ?_
  · go_simp
  · go_simp
  · go_simp
  rintro e w' ⟨rfl, rfl⟩
  go_wp2
  exact bodyPost_ret (v := .agg #[.int .u64 (r + 1000000000), .int .i64 (q - 1), .pointer none]) (by simp [results, Yba.results9, go_sem]) rfl ⟨rfl, ((Below.refl _ _).alloc (Nat.le_refl _) _).alloc (by simp) _⟩
set_option maxHeartbeats 1000000 in
theorem add_null (a q : Int) (w : World) (_h0 : a < 0) (_h1 : -2147483648 ≤ a) (hq : a.tdiv 1000000000 = q) (hr : a.tmod 1000000000 = 0) (q0 : -3 ≤ q) (q1 : q ≤ 0) :
    Calls Yba.prog 9 #[.agg #[.int .u64 0, .int .i64 0, .pointer none], .int .i64 a] w fun e w' => e = .returned (.agg #[.int .u64 0, .int .i64 q, .pointer none]) ∧ Below w.heap.size w w' := by
  have e1 := and_top 0 (by omega) (by omega)
  have e2 := notmask
  have e3 := or_zero' 0 (by omega) (by omega)
  go_enter Yba.func9, Yba.ntmps9
  go_wp2_with fail
  refine (nsec_any _ 0 _ ?_ (by omega) (by omega)).mono ?_
  · go_simp
  rintro e w' ⟨rfl, rfl⟩
  go_wp2_with fail
  refine (addSec_any _ (0) (q) _ ?_ ?_ ?_ (by omega) (by omega) (by omega) (by omega)).mono ?_
  · go_simp
  · go_simp
  · go_simp
  rintro e w' ⟨rfl, rfl⟩
  go_wp2
  exact bodyPost_ret (v := .agg #[.int .u64 (0), .int .i64 (q), .pointer none]) (by simp [results, Yba.results9, go_sem]) rfl ⟨rfl, ((Below.refl _ _).alloc (Nat.le_refl _) _).alloc (by simp) _⟩
/-- the time that lies a nanoseconds behind the zero time -/
def tmv (a : Int) : Value := .agg #[.int .u64 (a % 1000000000), .int .i64 (a / 1000000000), .pointer none]
theorem add_any (a : Int) (w : World) (h0 : -2147483648 ≤ a) (h1 : a ≤ 2147483647) :
    Calls Yba.prog 9 #[.agg #[.int .u64 0, .int .i64 0, .pointer none], .int .i64 a] w fun e w' => e = .returned (tmv a) ∧ Below w.heap.size w w' := by
  by_cases hp : 0 ≤ a
  · exact add_pos a w hp h1
  · have k1 : a.tdiv 1000000000 = -(-a / 1000000000) := by
      have : a.tdiv 1000000000 = -((-a).tdiv 1000000000) := by rw [Int.neg_tdiv]; omega
      rw [this, Int.tdiv_eq_ediv_of_nonneg (by omega)]
    have k2 : a.tmod 1000000000 = -(-a % 1000000000) := by
      have : a.tmod 1000000000 = -((-a).tmod 1000000000) := by rw [Int.neg_tmod]; omega
      rw [this, Int.tmod_eq_emod_of_nonneg (by omega)]
    by_cases hz : a.tmod 1000000000 = 0
    · have := add_null a (a.tdiv 1000000000) w (by omega) h0 rfl hz (by omega) (by omega)
      unfold tmv
      rw [show a % 1000000000 = 0 by omega, show a / 1000000000 = a.tdiv 1000000000 by omega]
      exact this
    · have := add_neg a (a.tdiv 1000000000) (a.tmod 1000000000) w (by omega) h0 rfl rfl (by omega) (by omega) (by omega) (by omega)
      unfold tmv
      rw [show a % 1000000000 = a.tmod 1000000000 + 1000000000 by omega, show a / 1000000000 = a.tdiv 1000000000 - 1 by omega]
      exact this
theorem bcell {W w1 : World} (hb : Below W.heap.size W w1) : (∀ b o, b < W.heap.size → w1.cell? ⟨b, o, none⟩ = W.cell? ⟨b, o, none⟩) ∧ (∀ b o, b < W.heap.size → w1.frozen? ⟨b, o, none⟩ = W.frozen? ⟨b, o, none⟩) :=
  ⟨fun b o h => hb.cell (p := ⟨b, o, none⟩) h, fun b o h => hb.frozen (p := ⟨b, o, none⟩) h⟩
set_option maxHeartbeats 1000000 in
theorem at_any (a : Int) (w : World) (h0 : -2147483648 ≤ a) (h1 : a ≤ 2147483647) :
    Calls Yba.prog 6 #[.int .i32 a] w fun e w' => e = .returned (tmv a) ∧ Below w.heap.size w w' := by
  go_enter Yba.func6, Yba.ntmps6
  go_wp2_with fail
  refine (add_any a _ h0 h1).mono ?_
  rintro e w1 ⟨rfl, hb⟩
  obtain ⟨hc, hf⟩ := bcell hb
  have hz : w.heap.size < w1.heap.size := by have := hb.size; simp at this; omega
  have c0 := hc w.heap.size 0 (by simp)
  have c1 := hc w.heap.size 1 (by simp)
  have c2 := hc w.heap.size 2 (by simp)
  have f0 := hf w.heap.size 0 (by simp)
  have f1 := hf w.heap.size 1 (by simp)
  have f2 := hf w.heap.size 2 (by simp)
  simp [go_sem] at c0 c1 c2 f0 f1 f2
  have HB : Hid (Below w.heap.size w w1) := ((Below.refl _ _).alloc (Nat.le_refl _) _).trans (hb.mono (by simp))
  clear hc hf hb
  unfold tmv
  go_wp2
  refine bodyPost_ret (v := tmv a) ?_ rfl ⟨rfl, ?_⟩
  · unfold tmv
    simp [results, Yba.results6, go_sem, c0, c1, c2]
  · exact ((HB.out.setCell (by simp) _).setCell (by simp) _).setCell (by simp) _
theorem and_three (m n : Int) (m0 : 0 ≤ m) (m1 : m ≤ 999999999) (n0 : 0 ≤ n) (n1 : n ≤ 999999999) : bits .and .u64 (bits .and .u64 m n) 9223372036854775808 = 0 := by
  rw [u64_and m n m0 (by omega) n0 (by omega)]
  have : m.toNat &&& n.toNat ≤ m.toNat := Nat.and_le_left
  exact and_top _ (by omega) (by omega)
set_option maxHeartbeats 1000000 in
theorem before_lt (m s n t : Int) (w : World) (m0 : 0 ≤ m) (m1 : m ≤ 999999999) (n0 : 0 ≤ n) (n1 : n ≤ 999999999) (h : s < t) :
    Calls Yba.prog 11 #[.agg #[.int .u64 m, .int .i64 s, .pointer none], .agg #[.int .u64 n, .int .i64 t, .pointer none]] w fun e w' => e = .returned (.bool true) ∧ Below w.heap.size w w' := by
  have e1 := and_three m n m0 m1 n0 n1
  go_enter Yba.func11, Yba.ntmps11
  go_wp2_with fail
  refine (sec_any _ m s _ ?_ ?_ m0 m1).mono ?_
  · go_simp
  · go_simp
  rintro e w' ⟨rfl, rfl⟩
  go_wp2_with fail
  refine (sec_any _ n t _ ?_ ?_ n0 n1).mono ?_
  · go_simp
  · go_simp
  rintro e w' ⟨rfl, rfl⟩
  go_wp2
  go_ret
  exact ⟨rfl, ((Below.refl _ _).alloc (Nat.le_refl _) _).alloc (by simp) _⟩
set_option maxHeartbeats 1000000 in
theorem before_gt (m s n t : Int) (w : World) (m0 : 0 ≤ m) (m1 : m ≤ 999999999) (n0 : 0 ≤ n) (n1 : n ≤ 999999999) (h : t < s) :
    Calls Yba.prog 11 #[.agg #[.int .u64 m, .int .i64 s, .pointer none], .agg #[.int .u64 n, .int .i64 t, .pointer none]] w fun e w' => e = .returned (.bool false) ∧ Below w.heap.size w w' := by
  have e1 := and_three m n m0 m1 n0 n1
  have e2 : (s == t) = false := by simp; omega
  have e3 : decide (s < t) = false := by simp; omega
  go_enter Yba.func11, Yba.ntmps11
  go_wp2_with fail
  refine (sec_any _ m s _ ?_ ?_ m0 m1).mono ?_
  · go_simp
  · go_simp
  rintro e w' ⟨rfl, rfl⟩
  go_wp2_with fail
  refine (sec_any _ n t _ ?_ ?_ n0 n1).mono ?_
  · go_simp
  · go_simp
  rintro e w' ⟨rfl, rfl⟩
  go_wp2
  go_ret
  exact ⟨rfl, ((Below.refl _ _).alloc (Nat.le_refl _) _).alloc (by simp) _⟩
set_option maxHeartbeats 1000000 in
theorem before_eq (m s n : Int) (w : World) (m0 : 0 ≤ m) (m1 : m ≤ 999999999) (n0 : 0 ≤ n) (n1 : n ≤ 999999999) :
    Calls Yba.prog 11 #[.agg #[.int .u64 m, .int .i64 s, .pointer none], .agg #[.int .u64 n, .int .i64 s, .pointer none]] w fun e w' => e = .returned (.bool (decide (m < n))) ∧ Below w.heap.size w w' := by
  have e1 := and_three m n m0 m1 n0 n1
  go_enter Yba.func11, Yba.ntmps11
  go_wp2_with fail
  refine (sec_any _ m s _ ?_ ?_ m0 m1).mono ?_
  · go_simp
  · go_simp
  rintro e w' ⟨rfl, rfl⟩
  go_wp2_with fail
  refine (sec_any _ n s _ ?_ ?_ n0 n1).mono ?_
  · go_simp
  · go_simp
  rintro e w' ⟨rfl, rfl⟩
  go_wp2_with fail
  refine (nsec_any _ m _ ?_ m0 m1).mono ?_
  · go_simp
  rintro e w' ⟨rfl, rfl⟩
  go_wp2_with fail
  refine (nsec_any _ n _ ?_ n0 n1).mono ?_
  · go_simp
  rintro e w' ⟨rfl, rfl⟩
  go_wp2
  go_ret
  exact ⟨rfl, ((Below.refl _ _).alloc (Nat.le_refl _) _).alloc (by simp) _⟩
theorem before_any (a b : Int) (w : World) :
    Calls Yba.prog 11 #[tmv a, tmv b] w fun e w' => e = .returned (.bool (decide (a < b))) ∧ Below w.heap.size w w' := by
  unfold tmv
  by_cases h : a / 1000000000 < b / 1000000000
  · rw [decide_eq_true (by omega)]
    exact before_lt _ _ _ _ w (by omega) (by omega) (by omega) (by omega) h
  · by_cases h' : b / 1000000000 < a / 1000000000
    · rw [decide_eq_false (by omega)]
      exact before_gt _ _ _ _ w (by omega) (by omega) (by omega) (by omega) h'
    · rw [show a / 1000000000 = b / 1000000000 by omega, show decide (a < b) = decide (a % 1000000000 < b % 1000000000) from decide_eq_decide.2 (by omega)]
      exact before_eq _ _ _ w (by omega) (by omega) (by omega) (by omega)
end Go.Proofs.Ybulkbbkq
