/-
  The plain law: has, from the last peer down, against the last index before since and an entry behind it.
-/
import Derived.Test.YbulkbbkqHas
namespace Go.Proofs.Ybulkbbkq
/-- the peer that the laws build of ids[j], ats[j] -/
def peer (I T : Nat → Int) (j : Nat) : UInt8 × Int := (UInt8.ofNat (I j % 4).toNat, T j)
def bid (x : Int) : UInt8 := UInt8.ofNat (x % 4).toNat
theorem bid_toNat (x : Int) : ((bid x).toNat : Int) = x % 4 := by
  unfold bid
  rw [UInt8.toNat_ofNat']
  omega
theorem bid_eq (x y : Int) : (bid x == bid y) = (x % 4 == y % 4) := by
  rw [Bool.eq_iff_iff, beq_iff_eq, beq_iff_eq]
  constructor
  · intro h
    have h1 := congrArg UInt8.toNat h
    unfold bid at h1
    rw [UInt8.toNat_ofNat', UInt8.toNat_ofNat'] at h1
    omega
  · intro h; unfold bid; rw [h]
/-- the peers of the law -/
def peers (I T : Nat → Int) (n : Nat) : List (UInt8 × Int) := (List.range n).map (peer I T)
theorem peers_length (I T : Nat → Int) (n : Nat) : (peers I T n).length = n := by simp [peers]
theorem elt_peers (I T : Nat → Int) (n j : Nat) (h : j < n) : elt (peers I T n) j = peer I T j := by
  simp [elt, peers, List.getD, h]
/-- has, from the last down -/
def down (k : UInt8) (t : Int) (f : Nat → UInt8 × Int) : Nat → Bool
  | 0 => false
  | m + 1 => if (f m).2 < t then false else if (f m).1 == k then true else down k t f m
theorem hasB_down (k : UInt8) (t : Int) (xs : List (UInt8 × Int)) : ∀ (m r : Nat), r + m = xs.length → hasB k t ((List.range m).map (fun j => back xs (r + j))) = down k t (elt xs) m
  | 0, _, _ => rfl
  | m + 1, r, h => by
    rw [List.range_succ_eq_map, List.map_cons, List.map_map, hasB, down]
    have e : back xs (r + 0) = ((xs.length : Int) - 1 - (r : Nat), elt xs m) := by
      unfold back; rw [Nat.add_zero, show xs.length - 1 - r = m by omega]
    rw [e]
    have ih := hasB_down k t xs m (r + 1) (by omega)
    have e2 : (fun j => back xs (r + 1 + j)) = ((fun j => back xs (r + j)) ∘ Nat.succ) := by
      funext j; simp only [Function.comp, Nat.succ_eq_add_one]; rw [show r + 1 + j = r + (j + 1) by omega]
    rw [e2] at ih
    rw [ih]
theorem hasB_all (k : UInt8) (t : Int) (xs : List (UInt8 × Int)) : hasB k t (upto (back xs) xs.length) = down k t (elt xs) xs.length := by
  have := hasB_down k t xs xs.length 0 (by omega)
  simp only [Nat.zero_add] at this
  exact this
theorem down_congr (k : UInt8) (t : Int) (f g : Nat → UInt8 × Int) : ∀ m, (∀ j, j < m → f j = g j) → down k t f m = down k t g m
  | 0, _ => rfl
  | m + 1, h => by
    rw [down, down, h m (by omega), down_congr k t f g m (fun j hj => h j (by omega))]
/-- the last index below k whose time lies before s, or -1 -/
def lastB (T : Nat → Int) (s : Int) : Nat → Int
  | 0 => -1
  | k + 1 => if T k < s then k else lastB T s k
theorem lastB_bd (T : Nat → Int) (s : Int) : ∀ k, -1 ≤ lastB T s k ∧ lastB T s k < k
  | 0 => by simp [lastB]
  | k + 1 => by
    have := lastB_bd T s k
    unfold lastB
    split <;> omega
/-- does an index from lo on, below k, carry want? -/
def anyB (I : Nat → Int) (x lo : Int) : Nat → Bool
  | 0 => false
  | k + 1 => anyB I x lo k || (decide (lo ≤ k) && (I k % 4 == x % 4))
theorem anyB_none (I : Nat → Int) (x lo : Int) : ∀ k : Nat, (k : Int) ≤ lo → anyB I x lo k = false
  | 0, _ => rfl
  | k + 1, h => by rw [anyB, anyB_none I x lo k (by omega), decide_eq_false (by omega)]; rfl
theorem down_any (I T : Nat → Int) (x s : Int) : ∀ m, down (bid x) s (peer I T) m = anyB I x (lastB T s m + 1) m
  | 0 => rfl
  | m + 1 => by
    rw [down, anyB, lastB]
    show (if T m < s then false else if bid (I m) == bid x then true else down (bid x) s (peer I T) m) = _
    by_cases h : T m < s
    · rw [if_pos h, if_pos h, anyB_none I x _ m (by omega), decide_eq_false (by omega)]; rfl
    · rw [if_neg h, if_neg h, bid_eq, down_any I T x s m]
      have hb := lastB_bd T s m
      rw [decide_eq_true (by omega), Bool.true_and]
      cases (I m % 4 == x % 4) <;> simp
theorem model_law (I T : Nat → Int) (x s : Int) (n : Nat) : hasB (bid x) s (upto (back (peers I T n)) (peers I T n).length) = anyB I x (lastB T s n + 1) n := by
  rw [hasB_all, peers_length, down_congr _ _ _ (peer I T) n (fun j hj => elt_peers I T n j hj), down_any]
end Go.Proofs.Ybulkbbkq
