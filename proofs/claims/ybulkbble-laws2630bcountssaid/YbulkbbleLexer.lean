/-
  The lexer of package parser: newLexer and position by their contracts; the count of characters.
-/
import Derived.Test.YbulkbbleRows
import Derived.WalkKit
import Derived.ProofKit
import Derived.WalkLawsBesides
import Derived.WalkSpells
import Derived.Laws.BitsAllLaws
import Derived.Laws.Rows
import Derived.Deep.QuietTactic
import Derived.BigQuiet
import Derived.BigRegion
namespace Go.Proofs.Ybulkbble
open Go.RowKit
/-- byte j of s, as a number -/
def bt (s : ByteArray) (j : Nat) : Int := if h : j < s.size then ((s[j]'h).toNat : Int) else 0
theorem bt_eq (s : ByteArray) (j : Nat) (h : j < s.size) : ((s[j]'h).toNat : Int) = bt s j := by rw [bt, dif_pos h]
/-- does a byte begin a character? -/
def chB (b : Int) : Bool := bits .and .u8 b 192 != 128
/-- how many characters begin in the first k bytes -/
def cnt (s : ByteArray) : Nat → Int
  | 0 => 0
  | k + 1 => cnt s k + if chB (bt s k) then 1 else 0
theorem cnt_bd (s : ByteArray) : ∀ k, 0 ≤ cnt s k ∧ cnt s k ≤ k
  | 0 => by simp [cnt]
  | k + 1 => by
    have := cnt_bd s k
    unfold cnt
    split <;> omega
theorem low_ch : ∀ b : Fin 128, (b.val &&& 192) ≠ 128 := by decide
theorem chB_low (b : Int) (h0 : 0 ≤ b) (h1 : b < 128) : chB b = true := by
  have h := low_ch ⟨b.toNat, by omega⟩
  unfold chB
  rw [u8_and b 192 h0 (by omega) (by omega) (by omega)]
  have e : (192 : Int).toNat = 192 := rfl
  rw [e]
  simp only [bne_iff_ne, ne_eq]
  intro hc
  exact h (by show b.toNat &&& 192 = 128; omega)
theorem bt_bd (s : ByteArray) (j : Nat) : 0 ≤ bt s j ∧ bt s j ≤ 255 := by
  unfold bt
  split
  · rename_i h
    have := (s[j]'h).toNat_lt
    omega
  · omega
theorem cnt_ascii (s : ByteArray) (n : Nat) (h : ∀ j, j < n → bt s j < 128) : ∀ k, k ≤ n → cnt s k = k
  | 0, _ => rfl
  | k + 1, hk => by
    rw [cnt, cnt_ascii s n h k (by omega), chB_low _ (bt_bd s k).1 (h k (by omega)), if_pos rfl]; rfl
/-- a lexer's cells -/
def lx (s : ByteArray) (n c : Nat) : Array Value := #[.string s, .int .i64 0, .string ⟨#[]⟩, .int .i64 n, .int .i64 c, .int .i64 (cnt s c), .string ⟨#[]⟩, .bool false]
set_option maxHeartbeats 400000 in
theorem new_any (s : ByteArray) (w : World) (hs : s.size ≤ 100000) :
    Calls Yba.prog 8 #[.string s] w fun e w' => ∃ n : Nat, n ≤ s.size ∧ (∀ j, j < n → bt s j < 128) ∧ e = .returned (.agg #[.string s, .int .i64 0, .string ⟨#[]⟩, .int .i64 n, .int .i64 n, .int .i64 n, .string ⟨#[]⟩, .bool false]) ∧ Below w.heap.size w w' := by
  go_enter Yba.func8, Yba.ntmps8
  go_wp2
  go_loop [3] (fun i => ∃ k : Nat, k ≤ s.size ∧ i = .int .i64 k ∧ ∀ j, j < k → bt s j < 128) (fun i => s.size - (intOf i).toNat)
  case atStart => exact ⟨0, Nat.zero_le _, rfl, fun j hj => absurd hj (by omega)⟩
  case round =>
    obtain ⟨k, hk, rfl, hall⟩ := hrel
    have HA : Hid (∀ j, j < k → bt s j < 128) := hall
    clear hall
    by_cases hlt : k < s.size
    · have HE : Hid (((s[k]'hlt).toNat : Int) = bt s k) := bt_eq s k hlt
      by_cases hb : ((s[k]'hlt).toNat : Int) < 128
      · go_wp2
        go_round
        case rel => exact ⟨k + 1, by omega, by go_num, fun j hj => by
          by_cases e : j = k
          · subst e; rw [← HE.out]; exact hb
          · exact HA.out j (by omega)⟩
        case measure => simp [intOf]; omega
      · have hb' : (128 : Int) ≤ ((s[k]'hlt).toNat : Int) := by omega
        go_wp2
        exact bodyPost_ret (v := .agg #[.string s, .int .i64 0, .string ⟨#[]⟩, .int .i64 k, .int .i64 k, .int .i64 k, .string ⟨#[]⟩, .bool false]) (by simp [results, Yba.results8, go_sem]) rfl ⟨k, hk, HA.out, rfl, (Below.refl _ _).alloc (Nat.le_refl _) _⟩
    · go_wp2
      exact bodyPost_ret (v := .agg #[.string s, .int .i64 0, .string ⟨#[]⟩, .int .i64 k, .int .i64 k, .int .i64 k, .string ⟨#[]⟩, .bool false]) (by simp [results, Yba.results8, go_sem]) rfl ⟨k, hk, HA.out, rfl, (Below.refl _ _).alloc (Nat.le_refl _) _⟩
theorem drewN_heap (w : World) (n : Nat) : (w.drewN n).heap = w.heap := rfl
theorem drewN_os (w : World) (n : Nat) : (w.drewN n).os = w.os := rfl
theorem drewN_tape (w : World) (n : Nat) : (w.drewN n).tape = w.tape := rfl
theorem drewN_output (w : World) (n : Nat) : (w.drewN n).output = w.output := rfl
/-- A LEXER OF s LIES IN BLOCK b: n bytes known to be ASCII, the characters ahead of byte c counted -/
structure LexAt (w : World) (b : Nat) (s : ByteArray) (n c : Nat) : Prop where
  block : w.heap[b]? = some (.cells (lx s n c) 34 (0, 0))
  lo : n ≤ c
  hi : c ≤ s.size
  asc : ∀ j, j < n → bt s j < 128
theorem LexAt.cell {w : World} {b : Nat} {s : ByteArray} {n c : Nat} (h : LexAt w b s n c) (j : Nat) : w.cell? ⟨b, j, none⟩ = (lx s n c)[j]? := cell_of_row w b j _ 34 (0, 0) h.block
theorem LexAt.frozen {w : World} {b : Nat} {s : ByteArray} {n c : Nat} (h : LexAt w b s n c) (j : Nat) : w.frozen? ⟨b, j, none⟩ = false := frozen_of_row w b j _ 34 h.block
set_option maxHeartbeats 400000 in
theorem pos_low (s : ByteArray) (b n c off : Nat) (w : World) (h : LexAt w b s n c) (hs : s.size ≤ 100000) (ho : off ≤ n) :
    Calls Yba.prog 10 #[.pointer (some ⟨b, 0, none⟩), .int .i64 off] w fun e w' => e = .returned (.int .i64 (cnt s off + 1)) ∧ w' = w := by
  have c3 : w.cell? ⟨b, 3, none⟩ = some (.int .i64 n) := h.cell 3
  have h1 := h.lo
  have h2 := h.hi
  have e := cnt_ascii s n h.asc off ho
  rw [e]
  clear e
  go_enter Yba.func10, Yba.ntmps10
  go_wp2
  go_ret
  exact ⟨rfl, rfl⟩
theorem lex_set {w : World} {b : Nat} {s : ByteArray} {n c : Nat} (h : LexAt w b s n c) (nq k : Nat) (hk : n ≤ k) (hs : k ≤ s.size) :
    LexAt (((w.drewN nq).setCell ⟨b, 4, none⟩ (.int .i64 k)).setCell ⟨b, 5, none⟩ (.int .i64 (cnt s k))) b s n k := by
  have h0 : (w.drewN nq).heap[b]? = some (.cells (lx s n c) 34 (0, 0)) := by rw [drewN_heap]; exact h.block
  have h1 := heap_setCell_same _ b 4 _ 34 (.int .i64 k) h0
  have h2 := heap_setCell_same _ b 5 _ 34 (.int .i64 (cnt s k)) h1
  exact ⟨h2, hk, hs, h.asc⟩
theorem lex_grown (w : World) (b nq : Nat) (u v : Value) : w.grownBy (((w.drewN nq).setCell ⟨b, 4, none⟩ u).setCell ⟨b, 5, none⟩ v) (some b) := by
  have h : w.grownBy (w.drewN nq) (some b) := ⟨drewN_os w nq, drewN_tape w nq, drewN_output w nq, by rw [drewN_heap]; exact Nat.le_refl _, fun k _ _ => by rw [drewN_heap]⟩
  refine ⟨h.os, h.tape, h.output, by simp [World.setCell], fun k hk hne => ?_⟩
  have e : k ≠ b := fun e => hne (by rw [e])
  rw [heap_setCell_other _ _ k _ e, heap_setCell_other _ _ k _ e]
  exact h.block k hk hne
set_option maxHeartbeats 1000000 in
theorem pos_high (s : ByteArray) (b n c off : Nat) (w : World) (h : LexAt w b s n c) (hs : s.size ≤ 100000) (ho : n < off) (hc : c ≤ off) (hoff : off ≤ s.size) :
    Calls Yba.prog 10 #[.pointer (some ⟨b, 0, none⟩), .int .i64 off] w fun e w' => e = .returned (.int .i64 (cnt s off + 1)) ∧ LexAt w' b s n off ∧ w.grownBy w' (some b) := by
  have c0 : w.cell? ⟨b, 0, none⟩ = some (.string s) := h.cell 0
  have c3 : w.cell? ⟨b, 3, none⟩ = some (.int .i64 n) := h.cell 3
  have c4 : w.cell? ⟨b, 4, none⟩ = some (.int .i64 c) := h.cell 4
  have c5 : w.cell? ⟨b, 5, none⟩ = some (.int .i64 (cnt s c)) := h.cell 5
  have f4 := h.frozen 4
  have f5 := h.frozen 5
  have HL : Hid (LexAt w b s n c) := h
  clear h
  go_enter Yba.func10, Yba.ntmps10
  go_wp2
  go_quiet (fail)
  go_wp2
  go_loop [5, 6] (fun i v => ∃ k : Nat, c ≤ k ∧ k ≤ off ∧ i = .int .i64 k ∧ v = .int .i64 (cnt s k)) (fun i _ => off - (intOf i).toNat)
  case atStart => exact ⟨c, Nat.le_refl _, hc, rfl, rfl⟩
  case round =>
    obtain ⟨k, hk0, hk1, rfl, rfl⟩ := hrel
    have hcb := cnt_bd s k
    by_cases hlt : k < off
    · have hks : k < s.size := by omega
      have HS : Hid (cnt s (k + 1) = cnt s k + if chB (bt s k) then 1 else 0) := rfl
      have HE : Hid (((s[k]'hks).toNat : Int) = bt s k) := bt_eq s k hks
      by_cases hb : (bits .and .u8 ((s[k]'hks).toNat : Int) 192 != 128) = true
      · go_wp2
        go_round
        case rel => exact ⟨k + 1, by omega, by omega, by go_num, by rw [HS.out, ← HE.out, chB, if_pos hb]⟩
        case measure => simp [intOf]; omega
      · have hb' : (bits .and .u8 ((s[k]'hks).toNat : Int) 192 != 128) = false := by simpa using hb
        clear hb
        go_wp2
        go_round
        case rel => exact ⟨k + 1, by omega, by omega, by go_num, by rw [HS.out, ← HE.out, chB, if_neg (by rw [hb']; simp)]; go_num⟩
        case measure => simp [intOf]; omega
    · obtain rfl : k = off := by omega
      go_wp2
      go_ret
      exact ⟨rfl, lex_set HL.out nq k (by omega) hoff, lex_grown w b nq _ _⟩
/-- position, asked at an offset that is no less than what was counted, or among the ASCII bytes: the characters ahead of it, plus one -/
theorem pos_any (s : ByteArray) (b n c off : Nat) (w : World) (h : LexAt w b s n c) (hs : s.size ≤ 100000) (hc : off ≤ n ∨ c ≤ off) (hoff : off ≤ s.size) :
    Calls Yba.prog 10 #[.pointer (some ⟨b, 0, none⟩), .int .i64 off] w fun e w' => e = .returned (.int .i64 (cnt s off + 1)) ∧ (∃ c', LexAt w' b s n c' ∧ (c' = c ∨ c' = off)) ∧ w.grownBy w' (some b) := by
  by_cases ho : off ≤ n
  · exact (pos_low s b n c off w h hs ho).mono fun e w' ⟨he, hw⟩ => ⟨he, ⟨c, hw ▸ h, .inl rfl⟩, hw ▸ World.grownBy.refl _ _⟩
  · exact (pos_high s b n c off w h hs (by omega) (by omega) hoff).mono fun e w' ⟨he, hl, hg⟩ => ⟨he, ⟨off, hl, .inr rfl⟩, hg⟩
end Go.Proofs.Ybulkbble
